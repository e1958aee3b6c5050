import JvmDerived
import JvmDerived.Pilot.@@N@@Statement
import JvmDerived.Pilot.@@N@@Code
set_option linter.unusedVariables false
set_option linter.unusedSimpArgs false
namespace Jvm.OwnKit
open Sem ClassFile Op Lib Jvm.Stand Jvm.Free Jvm.LawKit Jvm.RoadKit
def k_ushr (x y : Int32) : Int32 := (x.toUInt32 >>> (y &&& 31).toUInt32).toInt32
def k_ushrL (x : Int64) (y : Int32) : Int64 := (x.toUInt64 >>> (y &&& 63).toInt64.toUInt64).toInt64
def k_cmpL (x y : Int64) : Int32 := if x > y then 1 else if x = y then 0 else -1
/-- the state over whose tables the walk stands: the start itself, or (wd: a String constant may have been interned meanwhile) the start with tables grown since -/
def KBase (wd : Bool) (s s' : State) (n : Nat) : Prop := match wd with
  | true => ∃ (vm : Vm) (k : Nat), s' = s.setVm vm ∧ s.Since vm k ∧ k ≤ n
  | false => s' = s
/-- where a run stands: the state T with the heap h; what was written lies at n0 or above; of h0 all is kept but ws -/
def KPos (wd : Bool) (s' : State) (p : Program) (l : Launch) (e : Env) (R : Room) (s : State) (m : MethodId) (args : Array Value) (below : List Frame) (meth : Method) (c : Code) (Z : State) (own : String) (n0 : Nat) (h0 : Heap) (ws : List Addr) (T : State) (h : Heap) (cells slots : Nat) : Prop :=
  ∃ locs, Stand p l e R s' m args below meth c T locs cells slots ∧ KBase wd s s' h.size ∧ Z.Warmed39 s'.vm ∧ s'.vm.findClass own = some m.cls ∧ T.heap = h ∧ n0 ≤ h.size ∧ Fr n0 locs ∧ Keep h0 h ws
/-- what stands still in a body's walk -/
def KCx (tbl : List Jvm.Cond) (nm : String) (cod : ByteArray) (ml : Nat) (ret : Option FieldType) (p : Program) (meth : Method) (c : Code) (Z : State) (a0 : Array Value) : Prop :=
  p.tables.exec = Jvm.exec ∧ (∀ d ∈ tbl, d.before a0 Z = true) ∧ c.code = cod ∧ c.maxLocals = ml ∧ meth.sig.returnType = ret ∧ meth.name = nm ∧ meth.locks = false
/-- from this frame the run comes to an end that K speaks of -/
def KGo (p : Program) (e : Env) (below : List Frame) (K : State → Outcome → Prop) (T : State) (m : MethodId) (pc : Nat) (Ls : Array Slot) (st : List Value) : Prop :=
  ∃ s₂ o, Steps p.tables e below (T.setTop (mkF m pc Ls st)) s₂ ∧ s₂.status = .running ∧ Ended s₂ below o ∧ K s₂ o
/-- the frame of an end -/
def KEnde (wd : Bool) (s : State) (o : Outcome) (s₂ : State) (L : List Loc) (kc ks : Nat) : Prop := match wd with
  | true => ReturnedEndW s o s₂ L kc ks
  | false => FrameEnd s o s₂ L kc ks
/-- the end of a body that returns -/
def KEnd (wd : Bool) (s : State) (n0 : Nat) (h0 : Heap) (ws : List Addr) (Q : Option Value → Heap → Prop) (kc ks : Nat) (s₂ : State) (o : Outcome) : Prop :=
  ∃ v L, o = .returned v ∧ (Fr n0 L ∧ Keep h0 s₂.heap ws ∧ Q v s₂.heap) ∧ KEnde wd s o s₂ L kc ks
/-- a body's contract -/
def KCt (wd : Bool) (l : Launch) (y : MethodName) (cod : ByteArray) (ml : Nat) (ret : Option FieldType) (rm : Room) (Z : State) (n0 : Nat) (h0 : Heap) (as : Array Value) (ws : List Addr) (Q : Option Value → Heap → Prop) : Prop :=
  ∀ wsc : List Jvm.Cond, MetFree l y (head1 (Jvm.Cond.code y cod ml ret :: wsc) rm) (fun a U => a = as ∧ Z.Warmed39 U.vm ∧ U.heap = h0) (fun _ _ _ _ _ => True)
    (fun _ U o U' => ∃ v L, o = .returned v ∧ (Fr n0 L ∧ Keep h0 U'.heap ws ∧ Q v U'.heap) ∧ KEnde wd U o U' L rm.cells rm.slots)
section Kit
variable {wd : Bool} {s' : State} {p : Program} {l : Launch} {e : Env} {R : Room} {s : State} {m : MethodId} {args : Array Value} {below : List Frame} {meth : Method} {c : Code} {T : State} {cells slots : Nat} {Z : State} {a0 : Array Value} {h h' h0 : Heap} {n0 : Nat} {ws : List Addr} {K : State → Outcome → Prop}
  {tbl : List Jvm.Cond} {own nm : String} {cod : ByteArray} {ml : Nat} {ret : Option FieldType} {pc : Nat} {Ls : Array Slot} {st : List Value} {a b : Addr}
theorem KCx.exec (C : KCx tbl nm cod ml ret p meth c Z a0) : p.tables.exec = Jvm.exec := C.1
theorem KCx.hw (C : KCx tbl nm cod ml ret p meth c Z a0) : ∀ d ∈ tbl, d.before a0 Z = true := C.2.1
theorem KCx.cdE (C : KCx tbl nm cod ml ret p meth c Z a0) : c.code = cod := C.2.2.1
theorem KCx.mlE (C : KCx tbl nm cod ml ret p meth c Z a0) : c.maxLocals = ml := C.2.2.2.1
theorem KCx.rtE (C : KCx tbl nm cod ml ret p meth c Z a0) : meth.sig.returnType = ret := C.2.2.2.2.1
theorem KCx.nmE (C : KCx tbl nm cod ml ret p meth c Z a0) : meth.name = nm := C.2.2.2.2.2.1
theorem KCx.lk (C : KCx tbl nm cod ml ret p meth c Z a0) : meth.locks = false := C.2.2.2.2.2.2
theorem KCx.w (C : KCx tbl nm cod ml ret p meth c Z a0) (i : Nat) {d : Jvm.Cond} (q : tbl[i]? = some d) : d.before a0 Z = true := C.hw d (List.mem_of_getElem? q)
theorem KBase.mono {s' : State} {n n' : Nat} (B : KBase wd s s' n) (h : n ≤ n') : KBase wd s s' n' := by
  cases wd
  · exact B
  · obtain ⟨vm, k, h1, h2, h3⟩ := B; exact ⟨vm, k, h1, h2, Nat.le_trans h3 h⟩
theorem KPos.here (P : KPos wd s' p l e R s m args below meth c Z own n0 h0 ws T h cells slots) : At T m c below := by obtain ⟨_, X, -⟩ := P; exact X.here
theorem KPos.more (P : KPos wd s' p l e R s m args below meth c Z own n0 h0 ws T h cells slots) {cells' slots' : Nat} (hc : cells ≤ cells') (hs : slots ≤ slots') : KPos wd s' p l e R s m args below meth c Z own n0 h0 ws T h cells' slots' := by
  obtain ⟨L, X, r⟩ := P; exact ⟨L, X.more hc hs, r⟩
theorem KPos.size (P : KPos wd s' p l e R s m args below meth c Z own n0 h0 ws T h cells slots) : n0 ≤ h.size := by obtain ⟨_, _, _, _, _, _, r, -⟩ := P; exact r
theorem KPos.kept (P : KPos wd s' p l e R s m args below meth c Z own n0 h0 ws T h cells slots) : Keep h0 h ws := by obtain ⟨_, _, _, _, _, _, _, _, r⟩ := P; exact r
theorem KGo.step {T' : State} {pc' : Nat} {Ls' : Array Slot} {st' : List Value} (k : KGo p e below K T' m pc' Ls' st') (q : ∀ t, Steps p.tables e below (T'.setTop (mkF m pc' Ls' st')) t → Steps p.tables e below (T.setTop (mkF m pc Ls st)) t) : KGo p e below K T m pc Ls st := by
  obtain ⟨x, y, u, r⟩ := k; exact ⟨x, y, q _ u, r⟩
theorem KGo.cast {Ls' : Array Slot} {st' : List Value} (k : KGo p e below K T m pc Ls' st') (q : Ls' = Ls) (r : st' = st) : KGo p e below K T m pc Ls st := by subst q r; exact k
/-- a body is entered -/
theorem k_enter {y : MethodName} {rm : Room} {as : Array Value} {Q : Option Value → Heap → Prop} (hp : plainFor y = true) (hw : ∀ d ∈ tbl, d.before a0 Z = true) (hn : n0 ≤ h0.size) (hef : ∀ m, entryFrame m as ml = mkF m 0 Ls [])
    (body : ∀ p e s m below meth c T, KCx tbl y.name cod ml ret p meth c Z a0 → KPos wd s p l e rm s m as below meth c Z y.cls n0 h0 ws T h0 0 0 → KGo p e below (KEnd wd s n0 h0 ws Q rm.cells rm.slots) T m 0 Ls []) : KCt wd l y cod ml ret rm Z n0 h0 as ws Q := by
  intro wsc
  refine MetFree.of_bodySF hp hisR ?_
  intro p e s m args below meth c s₁ Bd hml0 hP hK
  obtain ⟨rfl, hZ, hh⟩ := hP
  have B : KBase wd s s h0.size := by
    cases wd
    · rfl
    · exact ⟨s.vm, 0, rfl, State.WarmedH.since (State.WarmedH.refl s) 0, Nat.zero_le _⟩
  have g := body p e s m below meth c s₁ ⟨Bd.exec, hw, Bd.bytes, hml0, Bd.returns, (name_of_methodNamed Bd.named Bd.method).1, Bd.notSynchronized⟩ ⟨[], Stand.of_body Bd, B, hZ, findClass_of_methodNamed Bd.named, by rw [← hh, Bd.state]; rfl, hn, Fr.nil _, Keep.refl _ _⟩
  obtain ⟨s₂, o, g1, g2, g3, v, L, g4, g5, g6⟩ := g
  exact ⟨s₂, o, castTop (hef m) g1, g2, g3, v, L, g4, g5, g6⟩
theorem KCt.plain {y : MethodName} {rm : Room} {as : Array Value} {Q : Option Value → Heap → Prop} (k : KCt false l y cod ml ret rm Z n0 h0 as ws Q) : MetFree l y (head1 [Jvm.Cond.code y cod ml ret] rm) (fun a U => a = as ∧ Z.Warmed39 U.vm ∧ U.heap = h0) (fun _ _ _ _ _ => True)
    (fun _ U o U' => ∃ v L, o = .returned v ∧ (Fr n0 L ∧ Keep h0 U'.heap ws ∧ Q v U'.heap) ∧ FrameEnd U o U' L rm.cells rm.slots) := k []
/-- a contract said more weakly -/
theorem KCt.imp {y : MethodName} {rm : Room} {as : Array Value} {Q Q' : Option Value → Heap → Prop} (k : KCt wd l y cod ml ret rm Z n0 h0 as ws Q) (q : ∀ v h, Q v h → Q' v h) : KCt wd l y cod ml ret rm Z n0 h0 as ws Q' := by
  intro wsc p e h1 h2 h3 s m args below h4 h5 h6 h7
  obtain ⟨n, o, g1, g2, g3, v, L, g4, ⟨g5, g6, g7⟩, g8⟩ := k wsc p e h1 h2 h3 s m args below h4 h5 h6 h7
  exact ⟨n, o, g1, g2, g3, v, L, g4, ⟨g5, g6, q _ _ g7⟩, g8⟩
/-! ### returns -/
theorem k_retVal {Q : Option Value → Heap → Prop} {kc ks : Nat} {v : Option Value} (C : KCx tbl nm cod ml ret p meth c Z a0) (P : KPos wd s' p l e R s m args below meth c Z own n0 h0 ws T h cells slots) (hv : ret = none → v = none) (hc : cells ≤ kc) (hs : slots ≤ ks) (hQ : Q v h)
    (q : ∀ fs, (∀ (f : JFrame) (acts : List Action), f.method = m → f.locked = none → f.entered = [] → (doReturn e (T.setTop f) acts v).1 = T.setFrames fs) → Steps p.tables e below (T.setTop (mkF m pc Ls st)) (T.setFrames fs)) : KGo p e below (KEnd wd s n0 h0 ws Q kc ks) T m pc Ls st := by
  obtain ⟨L, X, B, hZ, hown, eT, hn, hF, hk⟩ := P
  have hl : meth.locks = false := C.lk
  have X2 := X.more hc hs
  cases wd
  · cases B
    obtain ⟨fs, hr, hrun, hended, hW, hsame⟩ := X2.leave (v := v) (fun q => hv (C.rtE.symm.trans q)) hl
    exact ⟨_, _, q fs hr, hrun, hended, v, L, rfl, ⟨hF, by show Keep h0 T.heap ws; rw [eT]; exact hk, by show Q v T.heap; rw [eT]; exact hQ⟩, ⟨_, rfl⟩, hW, hsame⟩
  · obtain ⟨vm, k, rfl, hS, hk0⟩ := B
    obtain ⟨fs, hr, hrun, hended, hW⟩ := X2.leaveW hS (by rw [eT]; exact hk0) (v := v) (fun q => hv (C.rtE.symm.trans q)) hl
    exact ⟨_, _, q fs hr, hrun, hended, v, L, rfl, ⟨hF, by show Keep h0 T.heap ws; rw [eT]; exact hk, by show Q v T.heap; rw [eT]; exact hQ⟩, hW⟩
theorem k_retV {Q : Option Value → Heap → Prop} {kc ks : Nat} (C : KCx tbl nm cod ml none p meth c Z a0) (P : KPos wd s' p l e R s m args below meth c Z own n0 h0 ws T h cells slots) (hd : decode cod pc = .ok (.return_, 1)) (hc : cells ≤ kc) (hs : slots ≤ ks) (hQ : Q none h) : KGo p e below (KEnd wd s n0 h0 ws Q kc ks) T m pc Ls [] :=
  k_retVal C P (fun _ => rfl) hc hs hQ fun fs hr => by obtain ⟨L, X, -⟩ := P; exact X.returnOut C.1 C.rtE (hb C.cdE hd) hr
theorem k_retI {Q : Option Value → Heap → Prop} {kc ks : Nat} {z : Int32} (C : KCx tbl nm cod ml (some .int) p meth c Z a0) (P : KPos wd s' p l e R s m args below meth c Z own n0 h0 ws T h cells slots) (hd : decode cod pc = .ok (.ireturn, 1)) (hc : cells ≤ kc) (hs : slots ≤ ks) (hQ : Q (some (.int z)) h) : KGo p e below (KEnd wd s n0 h0 ws Q kc ks) T m pc Ls (.int z :: st) :=
  k_retVal C P (fun q => nomatch q) hc hs hQ fun fs hr => by
    obtain ⟨L, X, -⟩ := P
    exact retOut X C.1 C.rtE (rfl : narrow .int (.int z) = .int z) (Or.inl ⟨rfl, Or.inl rfl, _, rfl⟩) (hb C.cdE hd) hr
theorem k_retZ {Q : Option Value → Heap → Prop} {kc ks : Nat} {z z' : Int32} {t : FieldType} (C : KCx tbl nm cod ml (some t) p meth c Z a0) (P : KPos wd s' p l e R s m args below meth c Z own n0 h0 ws T h cells slots) (ht : t = .boolean ∨ t = .byte ∨ t = .char ∨ t = .short) (hd : decode cod pc = .ok (.ireturn, 1)) (hz : nar t z = z') (hc : cells ≤ kc) (hs : slots ≤ ks) (hQ : Q (some (.int z')) h) : KGo p e below (KEnd wd s n0 h0 ws Q kc ks) T m pc Ls (.int z :: st) :=
  k_retVal C P (fun q => nomatch q) hc hs hQ fun fs hr => by
    subst hz
    obtain ⟨L, X, -⟩ := P
    exact retN X C.1 C.rtE ht (hb C.cdE hd) hr
theorem k_retJ {Q : Option Value → Heap → Prop} {kc ks : Nat} {z : Int64} (C : KCx tbl nm cod ml (some .long) p meth c Z a0) (P : KPos wd s' p l e R s m args below meth c Z own n0 h0 ws T h cells slots) (hd : decode cod pc = .ok (.lreturn, 1)) (hc : cells ≤ kc) (hs : slots ≤ ks) (hQ : Q (some (.long z)) h) : KGo p e below (KEnd wd s n0 h0 ws Q kc ks) T m pc Ls (.long z :: st) :=
  k_retVal C P (fun q => nomatch q) hc hs hQ fun fs hr => by
    obtain ⟨L, X, -⟩ := P
    exact retOut X C.1 C.rtE (rfl : narrow .long (.long z) = .long z) (Or.inr (Or.inl ⟨rfl, rfl, _, rfl⟩)) (hb C.cdE hd) hr
theorem k_retD {Q : Option Value → Heap → Prop} {kc ks : Nat} {z : UInt64} (C : KCx tbl nm cod ml (some .double) p meth c Z a0) (P : KPos wd s' p l e R s m args below meth c Z own n0 h0 ws T h cells slots) (hd : decode cod pc = .ok (.dreturn, 1)) (hc : cells ≤ kc) (hs : slots ≤ ks) (hQ : Q (some (.double z)) h) : KGo p e below (KEnd wd s n0 h0 ws Q kc ks) T m pc Ls (.double z :: st) :=
  k_retVal C P (fun q => nomatch q) hc hs hQ fun fs hr => by
    obtain ⟨L, X, -⟩ := P
    exact retOut X C.1 C.rtE (rfl : narrow .double (.double z) = .double z) (Or.inr (Or.inr (Or.inl ⟨rfl, rfl, _, rfl⟩))) (hb C.cdE hd) hr
theorem k_narrow_ref {t : FieldType} {v : Value} (hv : v.isRef = true) : narrow t v = v := by rcases ref_cases hv with rfl | ⟨x, rfl⟩ <;> cases t <;> rfl
theorem k_retA {Q : Option Value → Heap → Prop} {kc ks : Nat} {v : Value} {t : FieldType} (C : KCx tbl nm cod ml (some t) p meth c Z a0) (P : KPos wd s' p l e R s m args below meth c Z own n0 h0 ws T h cells slots) (hd : decode cod pc = .ok (.areturn, 1)) (ht : t.isReference = true) (hv : v.isRef = true) (hc : cells ≤ kc) (hs : slots ≤ ks) (hQ : Q (some v) h) : KGo p e below (KEnd wd s n0 h0 ws Q kc ks) T m pc Ls (v :: st) :=
  k_retVal C P (fun q => nomatch q) hc hs hQ fun fs hr => by
    obtain ⟨L, X, -⟩ := P
    exact retOut X C.1 C.rtE (k_narrow_ref hv) (Or.inr (Or.inr (Or.inr (Or.inr ⟨rfl, ht, hv⟩)))) (hb C.cdE hd) hr
theorem k_10 : ¬ (1 : Int32) = 0 := by decide
theorem k_01 : (0 : Int32) = 0 := rfl
/-! ### branches -/
def CondP (cd : ClassFile.Cond) (x y : Int32) : Prop := match cd with | .eq => x = y | .ne => ¬ x = y | .lt => x < y | .ge => ¬ x < y | .gt => y < x | .le => ¬ y < x
def CondN (cd : ClassFile.Cond) (x y : Int32) : Prop := match cd with | .eq => ¬ x = y | .ne => x = y | .lt => ¬ x < y | .ge => x < y | .gt => ¬ y < x | .le => y < x
theorem k_condP {cd : ClassFile.Cond} {x y : Int32} (h : CondP cd x y) : if_icmp.holds cd x y = true := by
  cases cd <;> first | exact (teq h).1 | exact (feq h).2 | exact (tlt h).1 | exact (flt h).2.1 | exact (tlt h).2.2.1 | exact (flt h).2.2.2
theorem k_condN {cd : ClassFile.Cond} {x y : Int32} (h : CondN cd x y) : if_icmp.holds cd x y = false := by
  cases cd <;> first | exact (feq h).1 | exact (teq h).2 | exact (flt h).1 | exact (tlt h).2.1 | exact (flt h).2.2.1 | exact (tlt h).2.2.2
theorem k_condT {cd : ClassFile.Cond} (x y : Int32) : CondP cd x y ∨ CondN cd x y := by
  cases cd <;> simp only [CondP, CondN] <;> first | exact Classical.em _ | exact (Classical.em _).symm
theorem k_ifY {cd : ClassFile.Cond} {x : Int32} {o : Int} (C : KCx tbl nm cod ml ret p meth c Z a0) (P : KPos wd s' p l e R s m args below meth c Z own n0 h0 ws T h cells slots) (hd : decode cod pc = .ok (.ifCond cd o, 3)) (hc : CondP cd x 0) (ho : 0 ≤ (pc : Int) + o) {pc' : Nat} (hp : ((pc : Int) + o).toNat = pc') (k : KGo p e below K T m pc' Ls st) : KGo p e below K T m pc Ls (.int x :: st) :=
  k.step fun t q => XS.ifYes P.here C.1 rfl rfl (hb C.cdE hd) rfl ((if0 _ _).trans (k_condP hc)) ho hp q
theorem k_ifN {cd : ClassFile.Cond} {x : Int32} {o : Int} (C : KCx tbl nm cod ml ret p meth c Z a0) (P : KPos wd s' p l e R s m args below meth c Z own n0 h0 ws T h cells slots) (hd : decode cod pc = .ok (.ifCond cd o, 3)) (hc : CondN cd x 0) {pc' : Nat} (hp : pc + 3 = pc') (k : KGo p e below K T m pc' Ls st) : KGo p e below K T m pc Ls (.int x :: st) := by
  subst hp; exact k.step fun t q => XS.ifNo P.here C.1 rfl (hb C.cdE hd) rfl ((if0 _ _).trans (k_condN hc)) q
theorem k_ifB {cd : ClassFile.Cond} {x : Int32} {o : Int} (C : KCx tbl nm cod ml ret p meth c Z a0) (P : KPos wd s' p l e R s m args below meth c Z own n0 h0 ws T h cells slots) (hd : decode cod pc = .ok (.ifCond cd o, 3)) (ho : 0 ≤ (pc : Int) + o) {pcY pcN : Nat} (hp : ((pc : Int) + o).toNat = pcY) (hp' : pc + 3 = pcN) (kY : CondP cd x 0 → KGo p e below K T m pcY Ls st) (kN : CondN cd x 0 → KGo p e below K T m pcN Ls st) : KGo p e below K T m pc Ls (.int x :: st) :=
  (k_condT x 0).elim (fun q => k_ifY C P hd q ho hp (kY q)) (fun q => k_ifN C P hd q hp' (kN q))
theorem k_icY {cd : ClassFile.Cond} {x y : Int32} {o : Int} (C : KCx tbl nm cod ml ret p meth c Z a0) (P : KPos wd s' p l e R s m args below meth c Z own n0 h0 ws T h cells slots) (hd : decode cod pc = .ok (.if_icmp cd o, 3)) (hc : CondP cd x y) (ho : 0 ≤ (pc : Int) + o) {pc' : Nat} (hp : ((pc : Int) + o).toNat = pc') (k : KGo p e below K T m pc' Ls st) : KGo p e below K T m pc Ls (.int y :: .int x :: st) :=
  k.step fun t q => XS.icmpYes P.here C.1 rfl rfl (hb C.cdE hd) rfl (k_condP hc) ho hp q
theorem k_icN {cd : ClassFile.Cond} {x y : Int32} {o : Int} (C : KCx tbl nm cod ml ret p meth c Z a0) (P : KPos wd s' p l e R s m args below meth c Z own n0 h0 ws T h cells slots) (hd : decode cod pc = .ok (.if_icmp cd o, 3)) (hc : CondN cd x y) {pc' : Nat} (hp : pc + 3 = pc') (k : KGo p e below K T m pc' Ls st) : KGo p e below K T m pc Ls (.int y :: .int x :: st) := by
  subst hp; exact k.step fun t q => XS.icmpNo P.here C.1 rfl (hb C.cdE hd) rfl (k_condN hc) q
theorem k_icB {cd : ClassFile.Cond} {x y : Int32} {o : Int} (C : KCx tbl nm cod ml ret p meth c Z a0) (P : KPos wd s' p l e R s m args below meth c Z own n0 h0 ws T h cells slots) (hd : decode cod pc = .ok (.if_icmp cd o, 3)) (ho : 0 ≤ (pc : Int) + o) {pcY pcN : Nat} (hp : ((pc : Int) + o).toNat = pcY) (hp' : pc + 3 = pcN) (kY : CondP cd x y → KGo p e below K T m pcY Ls st) (kN : CondN cd x y → KGo p e below K T m pcN Ls st) : KGo p e below K T m pc Ls (.int y :: .int x :: st) :=
  (k_condT x y).elim (fun q => k_icY C P hd q ho hp (kY q)) (fun q => k_icN C P hd q hp' (kN q))
theorem k_goto {o : Int} (C : KCx tbl nm cod ml ret p meth c Z a0) (P : KPos wd s' p l e R s m args below meth c Z own n0 h0 ws T h cells slots) (hd : decode cod pc = .ok (.goto o, 3)) (ho : 0 ≤ (pc : Int) + o) {pc' : Nat} (hp : ((pc : Int) + o).toNat = pc') (k : KGo p e below K T m pc' Ls st) : KGo p e below K T m pc Ls st :=
  k.step fun t q => XS.goto P.here C.1 rfl rfl (hb C.cdE hd) ho hp q
theorem k_nullY {o : Int} (C : KCx tbl nm cod ml ret p meth c Z a0) (P : KPos wd s' p l e R s m args below meth c Z own n0 h0 ws T h cells slots) (hd : decode cod pc = .ok (.ifnull o, 3)) (ho : 0 ≤ (pc : Int) + o) {pc' : Nat} (hp : ((pc : Int) + o).toNat = pc') (k : KGo p e below K T m pc' Ls st) : KGo p e below K T m pc Ls (.null :: st) :=
  k.step fun t q => XS.ifnullYes P.here C.1 rfl rfl (hb C.cdE hd) rfl ho hp q
theorem k_nullN {o : Int} (C : KCx tbl nm cod ml ret p meth c Z a0) (P : KPos wd s' p l e R s m args below meth c Z own n0 h0 ws T h cells slots) (hd : decode cod pc = .ok (.ifnull o, 3)) {pc' : Nat} (hp : pc + 3 = pc') (k : KGo p e below K T m pc' Ls st) : KGo p e below K T m pc Ls (.ref a :: st) := by
  subst hp; exact k.step fun t q => XS.ifnullNo P.here C.1 rfl (hb C.cdE hd) rfl q
theorem k_nonnullY {o : Int} (C : KCx tbl nm cod ml ret p meth c Z a0) (P : KPos wd s' p l e R s m args below meth c Z own n0 h0 ws T h cells slots) (hd : decode cod pc = .ok (.ifnonnull o, 3)) (ho : 0 ≤ (pc : Int) + o) {pc' : Nat} (hp : ((pc : Int) + o).toNat = pc') (k : KGo p e below K T m pc' Ls st) : KGo p e below K T m pc Ls (.ref a :: st) :=
  k.step fun t q => XS.ifnonnullYes P.here C.1 rfl rfl (hb C.cdE hd) rfl ho hp q
theorem k_nonnullN {o : Int} (C : KCx tbl nm cod ml ret p meth c Z a0) (P : KPos wd s' p l e R s m args below meth c Z own n0 h0 ws T h cells slots) (hd : decode cod pc = .ok (.ifnonnull o, 3)) {pc' : Nat} (hp : pc + 3 = pc') (k : KGo p e below K T m pc' Ls st) : KGo p e below K T m pc Ls (.null :: st) := by
  subst hp; exact k.step fun t q => XS.ifnonnullNo P.here C.1 rfl (hb C.cdE hd) rfl q
theorem k_acB {cd : ClassFile.ACond} {x y : Value} {o : Int} (C : KCx tbl nm cod ml ret p meth c Z a0) (P : KPos wd s' p l e R s m args below meth c Z own n0 h0 ws T h cells slots) (hd : decode cod pc = .ok (.if_acmp cd o, 3)) (hx : x.isRef = true) (hy : y.isRef = true) (ho : 0 ≤ (pc : Int) + o) {pcY pcN : Nat} (hp : ((pc : Int) + o).toNat = pcY) (hp' : pc + 3 = pcN)
    (kY : XT.acmp cd x y = true → KGo p e below K T m pcY Ls st) (kN : XT.acmp cd x y = false → KGo p e below K T m pcN Ls st) : KGo p e below K T m pc Ls (y :: x :: st) := by
  cases q : XT.acmp cd x y
  · subst hp'; exact (kN q).step fun t r => XT.acmpNo P.here C.1 rfl (hb C.cdE hd) rfl hx hy q r
  · exact (kY q).step fun t r => XT.acmpYes P.here C.1 rfl rfl (hb C.cdE hd) rfl hx hy q ho hp r
/-- a condition laid on the stack as 1 or 0: if.., iconst, k_goto, iconst -/
theorem k_ternIf {cd : ClassFile.Cond} {x : Int32} {o : Int} {i j : Int} {vN vY : Int32} {Pp : Prop} [Decidable Pp] (C : KCx tbl nm cod ml ret p meth c Z a0) (P : KPos wd s' p l e R s m args below meth c Z own n0 h0 ws T h cells slots)
    (hd : decode cod pc = .ok (.ifCond cd o, 3)) {p1 p2 p3 p4 : Nat} (d1 : decode cod p1 = .ok (.iconst i, 1)) (d2 : decode cod p2 = .ok (.goto 4, 3)) (d3 : decode cod p3 = .ok (.iconst j, 1)) (q1 : pc + 3 = p1) (q2 : p1 + 1 = p2) (q3 : ((pc : Int) + o).toNat = p3) (q0 : 0 ≤ (pc : Int) + o) (q4 : p3 + 1 = p4) (q5 : p2 + 4 = p4)
    (hi : Int32.ofInt i = vN) (hj : Int32.ofInt j = vY) (hY : CondP cd x 0 → Pp) (hN : CondN cd x 0 → ¬ Pp) (k : KGo p e below K T m p4 Ls (.int (if Pp then vY else vN) :: st)) : KGo p e below K T m pc Ls (.int x :: st) := by
  refine k_ifB C P hd q0 q3 q1 (fun q => ?_) (fun q => ?_)
  · rw [if_pos (hY q)] at k
    subst q4 hj; exact k.step fun t r => XS.iconst P.here C.1 rfl (hb C.cdE d3) r
  · rw [if_neg (hN q)] at k
    subst hi q2
    have k2 : KGo p e below K T m (p1 + 1) Ls (.int (Int32.ofInt i) :: st) := k_goto C P d2 (by omega) (by omega) k
    exact k2.step fun t r => XS.iconst P.here C.1 rfl (hb C.cdE d1) r
theorem k_ternIc {cd : ClassFile.Cond} {x y : Int32} {o : Int} {i j : Int} {vN vY : Int32} {Pp : Prop} [Decidable Pp] (C : KCx tbl nm cod ml ret p meth c Z a0) (P : KPos wd s' p l e R s m args below meth c Z own n0 h0 ws T h cells slots)
    (hd : decode cod pc = .ok (.if_icmp cd o, 3)) {p1 p2 p3 p4 : Nat} (d1 : decode cod p1 = .ok (.iconst i, 1)) (d2 : decode cod p2 = .ok (.goto 4, 3)) (d3 : decode cod p3 = .ok (.iconst j, 1)) (q1 : pc + 3 = p1) (q2 : p1 + 1 = p2) (q3 : ((pc : Int) + o).toNat = p3) (q0 : 0 ≤ (pc : Int) + o) (q4 : p3 + 1 = p4) (q5 : p2 + 4 = p4)
    (hi : Int32.ofInt i = vN) (hj : Int32.ofInt j = vY) (hY : CondP cd x y → Pp) (hN : CondN cd x y → ¬ Pp) (k : KGo p e below K T m p4 Ls (.int (if Pp then vY else vN) :: st)) : KGo p e below K T m pc Ls (.int y :: .int x :: st) := by
  refine k_icB C P hd q0 q3 q1 (fun q => ?_) (fun q => ?_)
  · rw [if_pos (hY q)] at k
    subst q4 hj; exact k.step fun t r => XS.iconst P.here C.1 rfl (hb C.cdE d3) r
  · rw [if_neg (hN q)] at k
    subst hi q2
    have k2 : KGo p e below K T m (p1 + 1) Ls (.int (Int32.ofInt i) :: st) := k_goto C P d2 (by omega) (by omega) k
    exact k2.step fun t r => XS.iconst P.here C.1 rfl (hb C.cdE d1) r
theorem k_iload (C : KCx tbl nm cod ml ret p meth c Z a0) (P : KPos wd s' p l e R s m args below meth c Z own n0 h0 ws T h cells slots) {k : Nat} {v : Int32} (hd : decode cod pc = .ok (.iload k, 2)) (hl : Ls[k]? = some (.val (.int v))) {pc' : Nat} (hp : pc + 2 = pc') (k' : KGo p e below K T m pc' Ls (.int v :: st)) : KGo p e below K T m pc Ls (st) := by
  subst hp; exact k'.step fun t q => XS.iload P.here C.1 rfl (hb C.cdE hd) hl q
theorem k_iloadN (C : KCx tbl nm cod ml ret p meth c Z a0) (P : KPos wd s' p l e R s m args below meth c Z own n0 h0 ws T h cells slots) {k : Fin 4} {v : Int32} (hd : decode cod pc = .ok (.iload_n k, 1)) (hl : Ls[k.val]? = some (.val (.int v))) {pc' : Nat} (hp : pc + 1 = pc') (k' : KGo p e below K T m pc' Ls (.int v :: st)) : KGo p e below K T m pc Ls (st) := by
  subst hp; exact k'.step fun t q => XS.iloadN P.here C.1 rfl (hb C.cdE hd) hl q
theorem k_istore (C : KCx tbl nm cod ml ret p meth c Z a0) (P : KPos wd s' p l e R s m args below meth c Z own n0 h0 ws T h cells slots) {k : Nat} {x : Int32} {l' : Array Slot} (hd : decode cod pc = .ok (.istore k, 2)) (hl : storeLocals Ls k (.int x) = some l') {pc' : Nat} (hp : pc + 2 = pc') (k' : KGo p e below K T m pc' l' (st)) : KGo p e below K T m pc Ls (.int x :: st) := by
  subst hp; exact k'.step fun t q => XS.istore P.here C.1 rfl (hb C.cdE hd) rfl hl q
theorem k_istoreN (C : KCx tbl nm cod ml ret p meth c Z a0) (P : KPos wd s' p l e R s m args below meth c Z own n0 h0 ws T h cells slots) {k : Fin 4} {x : Int32} {l' : Array Slot} (hd : decode cod pc = .ok (.istore_n k, 1)) (hl : storeLocals Ls k.val (.int x) = some l') {pc' : Nat} (hp : pc + 1 = pc') (k' : KGo p e below K T m pc' l' (st)) : KGo p e below K T m pc Ls (.int x :: st) := by
  subst hp; exact k'.step fun t q => XS.istoreN P.here C.1 rfl (hb C.cdE hd) rfl hl q
theorem k_lload (C : KCx tbl nm cod ml ret p meth c Z a0) (P : KPos wd s' p l e R s m args below meth c Z own n0 h0 ws T h cells slots) {k : Nat} {v : Int64} (hd : decode cod pc = .ok (.lload k, 2)) (hl : Ls[k]? = some (.val (.long v))) {pc' : Nat} (hp : pc + 2 = pc') (k' : KGo p e below K T m pc' Ls (.long v :: st)) : KGo p e below K T m pc Ls (st) := by
  subst hp; exact k'.step fun t q => XS.lload P.here C.1 rfl (hb C.cdE hd) hl q
theorem k_lloadN (C : KCx tbl nm cod ml ret p meth c Z a0) (P : KPos wd s' p l e R s m args below meth c Z own n0 h0 ws T h cells slots) {k : Fin 4} {v : Int64} (hd : decode cod pc = .ok (.lload_n k, 1)) (hl : Ls[k.val]? = some (.val (.long v))) {pc' : Nat} (hp : pc + 1 = pc') (k' : KGo p e below K T m pc' Ls (.long v :: st)) : KGo p e below K T m pc Ls (st) := by
  subst hp; exact k'.step fun t q => XS.lloadN P.here C.1 rfl (hb C.cdE hd) hl q
theorem k_lstore (C : KCx tbl nm cod ml ret p meth c Z a0) (P : KPos wd s' p l e R s m args below meth c Z own n0 h0 ws T h cells slots) {k : Nat} {x : Int64} {l' : Array Slot} (hd : decode cod pc = .ok (.lstore k, 2)) (hl : storeLocals Ls k (.long x) = some l') {pc' : Nat} (hp : pc + 2 = pc') (k' : KGo p e below K T m pc' l' (st)) : KGo p e below K T m pc Ls (.long x :: st) := by
  subst hp; exact k'.step fun t q => XS.lstore P.here C.1 rfl (hb C.cdE hd) rfl hl q
theorem k_lstoreN (C : KCx tbl nm cod ml ret p meth c Z a0) (P : KPos wd s' p l e R s m args below meth c Z own n0 h0 ws T h cells slots) {k : Fin 4} {x : Int64} {l' : Array Slot} (hd : decode cod pc = .ok (.lstore_n k, 1)) (hl : storeLocals Ls k.val (.long x) = some l') {pc' : Nat} (hp : pc + 1 = pc') (k' : KGo p e below K T m pc' l' (st)) : KGo p e below K T m pc Ls (.long x :: st) := by
  subst hp; exact k'.step fun t q => XS.lstoreN P.here C.1 rfl (hb C.cdE hd) rfl hl q
theorem k_aload (C : KCx tbl nm cod ml ret p meth c Z a0) (P : KPos wd s' p l e R s m args below meth c Z own n0 h0 ws T h cells slots) {k : Nat} {v : Value} (hd : decode cod pc = .ok (.aload k, 2)) (hl : Ls[k]? = some (.val v)) (hv : v.isRef = true) {pc' : Nat} (hp : pc + 2 = pc') (k' : KGo p e below K T m pc' Ls (v :: st)) : KGo p e below K T m pc Ls (st) := by
  subst hp; exact k'.step fun t q => XS.aload P.here C.1 rfl (hb C.cdE hd) hl hv q
theorem k_aloadN (C : KCx tbl nm cod ml ret p meth c Z a0) (P : KPos wd s' p l e R s m args below meth c Z own n0 h0 ws T h cells slots) {k : Fin 4} {v : Value} (hd : decode cod pc = .ok (.aload_n k, 1)) (hl : Ls[k.val]? = some (.val v)) (hv : v.isRef = true) {pc' : Nat} (hp : pc + 1 = pc') (k' : KGo p e below K T m pc' Ls (v :: st)) : KGo p e below K T m pc Ls (st) := by
  subst hp; exact k'.step fun t q => XS.aloadN P.here C.1 rfl (hb C.cdE hd) hl hv q
theorem k_astore (C : KCx tbl nm cod ml ret p meth c Z a0) (P : KPos wd s' p l e R s m args below meth c Z own n0 h0 ws T h cells slots) {k : Nat} {x : Value} {l' : Array Slot} (hd : decode cod pc = .ok (.astore k, 2)) (hv : x.isRef = true) (hl : storeLocals Ls k x = some l') {pc' : Nat} (hp : pc + 2 = pc') (k' : KGo p e below K T m pc' l' (st)) : KGo p e below K T m pc Ls (x :: st) := by
  subst hp; exact k'.step fun t q => XS.astore P.here C.1 rfl (hb C.cdE hd) rfl hv hl q
theorem k_astoreN (C : KCx tbl nm cod ml ret p meth c Z a0) (P : KPos wd s' p l e R s m args below meth c Z own n0 h0 ws T h cells slots) {k : Fin 4} {x : Value} {l' : Array Slot} (hd : decode cod pc = .ok (.astore_n k, 1)) (hv : x.isRef = true) (hl : storeLocals Ls k.val x = some l') {pc' : Nat} (hp : pc + 1 = pc') (k' : KGo p e below K T m pc' l' (st)) : KGo p e below K T m pc Ls (x :: st) := by
  subst hp; exact k'.step fun t q => XS.astoreN P.here C.1 rfl (hb C.cdE hd) rfl hv hl q
theorem k_iconst (C : KCx tbl nm cod ml ret p meth c Z a0) (P : KPos wd s' p l e R s m args below meth c Z own n0 h0 ws T h cells slots) {i : Int} {z : Int32} (hd : decode cod pc = .ok (.iconst i, 1)) (hz : Int32.ofInt i = z) {pc' : Nat} (hp : pc + 1 = pc') (k' : KGo p e below K T m pc' Ls (.int z :: st)) : KGo p e below K T m pc Ls (st) := by
  subst hp; exact k'.step fun t q => XS.iconst P.here C.1 rfl (hb C.cdE hd) (hz ▸ q)
theorem k_bipush (C : KCx tbl nm cod ml ret p meth c Z a0) (P : KPos wd s' p l e R s m args below meth c Z own n0 h0 ws T h cells slots) {i : Int} {z : Int32} (hd : decode cod pc = .ok (.bipush i, 2)) (hz : (Int8.ofInt i).toInt32 = z) {pc' : Nat} (hp : pc + 2 = pc') (k' : KGo p e below K T m pc' Ls (.int z :: st)) : KGo p e below K T m pc Ls (st) := by
  subst hp; exact k'.step fun t q => XS.bipush P.here C.1 rfl (hb C.cdE hd) (hz ▸ q)
theorem k_sipush (C : KCx tbl nm cod ml ret p meth c Z a0) (P : KPos wd s' p l e R s m args below meth c Z own n0 h0 ws T h cells slots) {i : Int} {z : Int32} (hd : decode cod pc = .ok (.sipush i, 3)) (hz : (Int16.ofInt i).toInt32 = z) {pc' : Nat} (hp : pc + 3 = pc') (k' : KGo p e below K T m pc' Ls (.int z :: st)) : KGo p e below K T m pc Ls (st) := by
  subst hp; exact k'.step fun t q => XS.sipush P.here C.1 rfl (hb C.cdE hd) (hz ▸ q)
theorem k_lconst (C : KCx tbl nm cod ml ret p meth c Z a0) (P : KPos wd s' p l e R s m args below meth c Z own n0 h0 ws T h cells slots) {i : Fin 2} {z : Int64} (hd : decode cod pc = .ok (.lconst i, 1)) (hz : Int64.ofNat i = z) {pc' : Nat} (hp : pc + 1 = pc') (k' : KGo p e below K T m pc' Ls (.long z :: st)) : KGo p e below K T m pc Ls (st) := by
  subst hp; exact k'.step fun t q => XS.lconst P.here C.1 rfl (hb C.cdE hd) (hz ▸ q)
theorem k_aconstNull (C : KCx tbl nm cod ml ret p meth c Z a0) (P : KPos wd s' p l e R s m args below meth c Z own n0 h0 ws T h cells slots)  (hd : decode cod pc = .ok (.aconst_null, 1))  {pc' : Nat} (hp : pc + 1 = pc') (k' : KGo p e below K T m pc' Ls (.null :: st)) : KGo p e below K T m pc Ls (st) := by
  subst hp; exact k'.step fun t q => XS.aconstNull P.here C.1 rfl (hb C.cdE hd) q
theorem k_iadd (C : KCx tbl nm cod ml ret p meth c Z a0) (P : KPos wd s' p l e R s m args below meth c Z own n0 h0 ws T h cells slots) {x y : Int32} (hd : decode cod pc = .ok (.iadd, 1))  {pc' : Nat} (hp : pc + 1 = pc') (k' : KGo p e below K T m pc' Ls (.int (x + y) :: st)) : KGo p e below K T m pc Ls (.int y :: .int x :: st) := by
  subst hp; exact k'.step fun t q => XS.iadd P.here C.1 rfl (hb C.cdE hd) rfl q
theorem k_isub (C : KCx tbl nm cod ml ret p meth c Z a0) (P : KPos wd s' p l e R s m args below meth c Z own n0 h0 ws T h cells slots) {x y : Int32} (hd : decode cod pc = .ok (.isub, 1))  {pc' : Nat} (hp : pc + 1 = pc') (k' : KGo p e below K T m pc' Ls (.int (x - y) :: st)) : KGo p e below K T m pc Ls (.int y :: .int x :: st) := by
  subst hp; exact k'.step fun t q => XS.isub P.here C.1 rfl (hb C.cdE hd) rfl q
theorem k_imul (C : KCx tbl nm cod ml ret p meth c Z a0) (P : KPos wd s' p l e R s m args below meth c Z own n0 h0 ws T h cells slots) {x y : Int32} (hd : decode cod pc = .ok (.imul, 1))  {pc' : Nat} (hp : pc + 1 = pc') (k' : KGo p e below K T m pc' Ls (.int (x * y) :: st)) : KGo p e below K T m pc Ls (.int y :: .int x :: st) := by
  subst hp; exact k'.step fun t q => XS.imul P.here C.1 rfl (hb C.cdE hd) rfl q
theorem k_iand (C : KCx tbl nm cod ml ret p meth c Z a0) (P : KPos wd s' p l e R s m args below meth c Z own n0 h0 ws T h cells slots) {x y : Int32} (hd : decode cod pc = .ok (.iand, 1))  {pc' : Nat} (hp : pc + 1 = pc') (k' : KGo p e below K T m pc' Ls (.int (x &&& y) :: st)) : KGo p e below K T m pc Ls (.int y :: .int x :: st) := by
  subst hp; exact k'.step fun t q => XS.iand P.here C.1 rfl (hb C.cdE hd) rfl q
theorem k_ior (C : KCx tbl nm cod ml ret p meth c Z a0) (P : KPos wd s' p l e R s m args below meth c Z own n0 h0 ws T h cells slots) {x y : Int32} (hd : decode cod pc = .ok (.ior, 1))  {pc' : Nat} (hp : pc + 1 = pc') (k' : KGo p e below K T m pc' Ls (.int (x ||| y) :: st)) : KGo p e below K T m pc Ls (.int y :: .int x :: st) := by
  subst hp; exact k'.step fun t q => XS.ior P.here C.1 rfl (hb C.cdE hd) rfl q
theorem k_ixor (C : KCx tbl nm cod ml ret p meth c Z a0) (P : KPos wd s' p l e R s m args below meth c Z own n0 h0 ws T h cells slots) {x y : Int32} (hd : decode cod pc = .ok (.ixor, 1))  {pc' : Nat} (hp : pc + 1 = pc') (k' : KGo p e below K T m pc' Ls (.int (x ^^^ y) :: st)) : KGo p e below K T m pc Ls (.int y :: .int x :: st) := by
  subst hp; exact k'.step fun t q => XS.ixor P.here C.1 rfl (hb C.cdE hd) rfl q
theorem k_ishl (C : KCx tbl nm cod ml ret p meth c Z a0) (P : KPos wd s' p l e R s m args below meth c Z own n0 h0 ws T h cells slots) {x y : Int32} (hd : decode cod pc = .ok (.ishl, 1))  {pc' : Nat} (hp : pc + 1 = pc') (k' : KGo p e below K T m pc' Ls (.int (x <<< (y &&& 31)) :: st)) : KGo p e below K T m pc Ls (.int y :: .int x :: st) := by
  subst hp; exact k'.step fun t q => XS.ishl P.here C.1 rfl (hb C.cdE hd) rfl q
theorem k_ishr (C : KCx tbl nm cod ml ret p meth c Z a0) (P : KPos wd s' p l e R s m args below meth c Z own n0 h0 ws T h cells slots) {x y : Int32} (hd : decode cod pc = .ok (.ishr, 1))  {pc' : Nat} (hp : pc + 1 = pc') (k' : KGo p e below K T m pc' Ls (.int (x >>> (y &&& 31)) :: st)) : KGo p e below K T m pc Ls (.int y :: .int x :: st) := by
  subst hp; exact k'.step fun t q => XS.ishr P.here C.1 rfl (hb C.cdE hd) rfl q
theorem k_iushr (C : KCx tbl nm cod ml ret p meth c Z a0) (P : KPos wd s' p l e R s m args below meth c Z own n0 h0 ws T h cells slots) {x y : Int32} (hd : decode cod pc = .ok (.iushr, 1))  {pc' : Nat} (hp : pc + 1 = pc') (k' : KGo p e below K T m pc' Ls (.int (k_ushr x y) :: st)) : KGo p e below K T m pc Ls (.int y :: .int x :: st) := by
  subst hp; exact k'.step fun t q => XS.iushr P.here C.1 rfl (hb C.cdE hd) rfl q
theorem k_ladd (C : KCx tbl nm cod ml ret p meth c Z a0) (P : KPos wd s' p l e R s m args below meth c Z own n0 h0 ws T h cells slots) {x y : Int64} (hd : decode cod pc = .ok (.ladd, 1))  {pc' : Nat} (hp : pc + 1 = pc') (k' : KGo p e below K T m pc' Ls (.long (x + y) :: st)) : KGo p e below K T m pc Ls (.long y :: .long x :: st) := by
  subst hp; exact k'.step fun t q => XS.ladd P.here C.1 rfl (hb C.cdE hd) rfl q
theorem k_lsub (C : KCx tbl nm cod ml ret p meth c Z a0) (P : KPos wd s' p l e R s m args below meth c Z own n0 h0 ws T h cells slots) {x y : Int64} (hd : decode cod pc = .ok (.lsub, 1))  {pc' : Nat} (hp : pc + 1 = pc') (k' : KGo p e below K T m pc' Ls (.long (x - y) :: st)) : KGo p e below K T m pc Ls (.long y :: .long x :: st) := by
  subst hp; exact k'.step fun t q => XS.lsub P.here C.1 rfl (hb C.cdE hd) rfl q
theorem k_lmul (C : KCx tbl nm cod ml ret p meth c Z a0) (P : KPos wd s' p l e R s m args below meth c Z own n0 h0 ws T h cells slots) {x y : Int64} (hd : decode cod pc = .ok (.lmul, 1))  {pc' : Nat} (hp : pc + 1 = pc') (k' : KGo p e below K T m pc' Ls (.long (x * y) :: st)) : KGo p e below K T m pc Ls (.long y :: .long x :: st) := by
  subst hp; exact k'.step fun t q => XS.lmul P.here C.1 rfl (hb C.cdE hd) rfl q
theorem k_land (C : KCx tbl nm cod ml ret p meth c Z a0) (P : KPos wd s' p l e R s m args below meth c Z own n0 h0 ws T h cells slots) {x y : Int64} (hd : decode cod pc = .ok (.land, 1))  {pc' : Nat} (hp : pc + 1 = pc') (k' : KGo p e below K T m pc' Ls (.long (x &&& y) :: st)) : KGo p e below K T m pc Ls (.long y :: .long x :: st) := by
  subst hp; exact k'.step fun t q => XS.land P.here C.1 rfl (hb C.cdE hd) rfl q
theorem k_lor (C : KCx tbl nm cod ml ret p meth c Z a0) (P : KPos wd s' p l e R s m args below meth c Z own n0 h0 ws T h cells slots) {x y : Int64} (hd : decode cod pc = .ok (.lor, 1))  {pc' : Nat} (hp : pc + 1 = pc') (k' : KGo p e below K T m pc' Ls (.long (x ||| y) :: st)) : KGo p e below K T m pc Ls (.long y :: .long x :: st) := by
  subst hp; exact k'.step fun t q => XS.lor P.here C.1 rfl (hb C.cdE hd) rfl q
theorem k_lxor (C : KCx tbl nm cod ml ret p meth c Z a0) (P : KPos wd s' p l e R s m args below meth c Z own n0 h0 ws T h cells slots) {x y : Int64} (hd : decode cod pc = .ok (.lxor, 1))  {pc' : Nat} (hp : pc + 1 = pc') (k' : KGo p e below K T m pc' Ls (.long (x ^^^ y) :: st)) : KGo p e below K T m pc Ls (.long y :: .long x :: st) := by
  subst hp; exact k'.step fun t q => XS.lxor P.here C.1 rfl (hb C.cdE hd) rfl q
theorem k_lshl (C : KCx tbl nm cod ml ret p meth c Z a0) (P : KPos wd s' p l e R s m args below meth c Z own n0 h0 ws T h cells slots) {x : Int64} {y : Int32} (hd : decode cod pc = .ok (.lshl, 1))  {pc' : Nat} (hp : pc + 1 = pc') (k' : KGo p e below K T m pc' Ls (.long (x <<< (y &&& 63).toInt64) :: st)) : KGo p e below K T m pc Ls (.int y :: .long x :: st) := by
  subst hp; exact k'.step fun t q => XS.lshl P.here C.1 rfl (hb C.cdE hd) rfl q
theorem k_lshr (C : KCx tbl nm cod ml ret p meth c Z a0) (P : KPos wd s' p l e R s m args below meth c Z own n0 h0 ws T h cells slots) {x : Int64} {y : Int32} (hd : decode cod pc = .ok (.lshr, 1))  {pc' : Nat} (hp : pc + 1 = pc') (k' : KGo p e below K T m pc' Ls (.long (x >>> (y &&& 63).toInt64) :: st)) : KGo p e below K T m pc Ls (.int y :: .long x :: st) := by
  subst hp; exact k'.step fun t q => XS.lshr P.here C.1 rfl (hb C.cdE hd) rfl q
theorem k_lushr (C : KCx tbl nm cod ml ret p meth c Z a0) (P : KPos wd s' p l e R s m args below meth c Z own n0 h0 ws T h cells slots) {x : Int64} {y : Int32} (hd : decode cod pc = .ok (.lushr, 1))  {pc' : Nat} (hp : pc + 1 = pc') (k' : KGo p e below K T m pc' Ls (.long (k_ushrL x y) :: st)) : KGo p e below K T m pc Ls (.int y :: .long x :: st) := by
  subst hp; exact k'.step fun t q => XS.lushr P.here C.1 rfl (hb C.cdE hd) rfl q
theorem k_lcmp (C : KCx tbl nm cod ml ret p meth c Z a0) (P : KPos wd s' p l e R s m args below meth c Z own n0 h0 ws T h cells slots) {x y : Int64} (hd : decode cod pc = .ok (.lcmp, 1))  {pc' : Nat} (hp : pc + 1 = pc') (k' : KGo p e below K T m pc' Ls (.int (k_cmpL x y) :: st)) : KGo p e below K T m pc Ls (.long y :: .long x :: st) := by
  subst hp; exact k'.step fun t q => XS.lcmp P.here C.1 rfl (hb C.cdE hd) rfl q
theorem k_i2l (C : KCx tbl nm cod ml ret p meth c Z a0) (P : KPos wd s' p l e R s m args below meth c Z own n0 h0 ws T h cells slots) {x : Int32} (hd : decode cod pc = .ok (.i2l, 1))  {pc' : Nat} (hp : pc + 1 = pc') (k' : KGo p e below K T m pc' Ls (.long (x.toInt64) :: st)) : KGo p e below K T m pc Ls (.int x :: st) := by
  subst hp; exact k'.step fun t q => XS.i2l P.here C.1 rfl (hb C.cdE hd) rfl q
theorem k_l2i (C : KCx tbl nm cod ml ret p meth c Z a0) (P : KPos wd s' p l e R s m args below meth c Z own n0 h0 ws T h cells slots) {x : Int64} (hd : decode cod pc = .ok (.l2i, 1))  {pc' : Nat} (hp : pc + 1 = pc') (k' : KGo p e below K T m pc' Ls (.int (x.toInt32) :: st)) : KGo p e below K T m pc Ls (.long x :: st) := by
  subst hp; exact k'.step fun t q => XS.l2i P.here C.1 rfl (hb C.cdE hd) rfl q
theorem k_i2b (C : KCx tbl nm cod ml ret p meth c Z a0) (P : KPos wd s' p l e R s m args below meth c Z own n0 h0 ws T h cells slots) {x : Int32} (hd : decode cod pc = .ok (.i2b, 1))  {pc' : Nat} (hp : pc + 1 = pc') (k' : KGo p e below K T m pc' Ls (.int (x.toInt8.toInt32) :: st)) : KGo p e below K T m pc Ls (.int x :: st) := by
  subst hp; exact k'.step fun t q => XS.i2b P.here C.1 rfl (hb C.cdE hd) rfl q
theorem k_i2c (C : KCx tbl nm cod ml ret p meth c Z a0) (P : KPos wd s' p l e R s m args below meth c Z own n0 h0 ws T h cells slots) {x : Int32} (hd : decode cod pc = .ok (.i2c, 1))  {pc' : Nat} (hp : pc + 1 = pc') (k' : KGo p e below K T m pc' Ls (.int (x.toUInt32.toUInt16.toUInt32.toInt32) :: st)) : KGo p e below K T m pc Ls (.int x :: st) := by
  subst hp; exact k'.step fun t q => XS.i2c P.here C.1 rfl (hb C.cdE hd) rfl q
theorem k_i2s (C : KCx tbl nm cod ml ret p meth c Z a0) (P : KPos wd s' p l e R s m args below meth c Z own n0 h0 ws T h cells slots) {x : Int32} (hd : decode cod pc = .ok (.i2s, 1))  {pc' : Nat} (hp : pc + 1 = pc') (k' : KGo p e below K T m pc' Ls (.int (x.toInt16.toInt32) :: st)) : KGo p e below K T m pc Ls (.int x :: st) := by
  subst hp; exact k'.step fun t q => XS.i2s P.here C.1 rfl (hb C.cdE hd) rfl q
theorem k_ineg (C : KCx tbl nm cod ml ret p meth c Z a0) (P : KPos wd s' p l e R s m args below meth c Z own n0 h0 ws T h cells slots) {x : Int32} (hd : decode cod pc = .ok (.ineg, 1))  {pc' : Nat} (hp : pc + 1 = pc') (k' : KGo p e below K T m pc' Ls (.int (-x) :: st)) : KGo p e below K T m pc Ls (.int x :: st) := by
  subst hp; exact k'.step fun t q => XS.ineg P.here C.1 rfl (hb C.cdE hd) rfl q
theorem k_lneg (C : KCx tbl nm cod ml ret p meth c Z a0) (P : KPos wd s' p l e R s m args below meth c Z own n0 h0 ws T h cells slots) {x : Int64} (hd : decode cod pc = .ok (.lneg, 1))  {pc' : Nat} (hp : pc + 1 = pc') (k' : KGo p e below K T m pc' Ls (.long (-x) :: st)) : KGo p e below K T m pc Ls (.long x :: st) := by
  subst hp; exact k'.step fun t q => XS.lneg P.here C.1 rfl (hb C.cdE hd) rfl q
theorem k_irem (C : KCx tbl nm cod ml ret p meth c Z a0) (P : KPos wd s' p l e R s m args below meth c Z own n0 h0 ws T h cells slots) {x y : Int32} (hd : decode cod pc = .ok (.irem, 1)) (hy : y ≠ 0) {pc' : Nat} (hp : pc + 1 = pc') (k' : KGo p e below K T m pc' Ls (.int (x % y) :: st)) : KGo p e below K T m pc Ls (.int y :: .int x :: st) := by
  subst hp; exact k'.step fun t q => XS.irem P.here C.1 rfl (hb C.cdE hd) rfl hy (by rw [irem_eq_mod]; exact q)
theorem k_idiv (C : KCx tbl nm cod ml ret p meth c Z a0) (P : KPos wd s' p l e R s m args below meth c Z own n0 h0 ws T h cells slots) {x y : Int32} (hd : decode cod pc = .ok (.idiv, 1)) (hy : y ≠ 0) {pc' : Nat} (hp : pc + 1 = pc') (k' : KGo p e below K T m pc' Ls (.int (x / y) :: st)) : KGo p e below K T m pc Ls (.int y :: .int x :: st) := by
  subst hp; exact k'.step fun t q => XS.idiv P.here C.1 rfl (hb C.cdE hd) rfl hy q
theorem k_iinc (C : KCx tbl nm cod ml ret p meth c Z a0) (P : KPos wd s' p l e R s m args below meth c Z own n0 h0 ws T h cells slots) {k : Nat} {cst : Int} {x z : Int32} {l' : Array Slot} (hd : decode cod pc = .ok (.iinc k cst, 3)) (hl : Ls[k]? = some (.val (.int x))) (hz : x + Int32.ofInt cst = z) (hl' : storeLocals Ls k (.int z) = some l') {pc' : Nat} (hp : pc + 3 = pc') (k' : KGo p e below K T m pc' l' (st)) : KGo p e below K T m pc Ls (st) := by
  subst hp; exact k'.step fun t q => XS.iinc P.here C.1 rfl (hb C.cdE hd) hl (hz ▸ hl') q
theorem k_dup (C : KCx tbl nm cod ml ret p meth c Z a0) (P : KPos wd s' p l e R s m args below meth c Z own n0 h0 ws T h cells slots) {x : Value} (hd : decode cod pc = .ok (.dup, 1)) (hc : x.category = 1) {pc' : Nat} (hp : pc + 1 = pc') (k' : KGo p e below K T m pc' Ls (x :: x :: st)) : KGo p e below K T m pc Ls (x :: st) := by
  subst hp; exact k'.step fun t q => XS.dup P.here C.1 rfl (hb C.cdE hd) rfl hc q
theorem k_pop (C : KCx tbl nm cod ml ret p meth c Z a0) (P : KPos wd s' p l e R s m args below meth c Z own n0 h0 ws T h cells slots) {x : Value} (hd : decode cod pc = .ok (.pop, 1)) (hc : x.category = 1) {pc' : Nat} (hp : pc + 1 = pc') (k' : KGo p e below K T m pc' Ls (st)) : KGo p e below K T m pc Ls (x :: st) := by
  subst hp; exact k'.step fun t q => XS.pop P.here C.1 rfl (hb C.cdE hd) rfl hc q
theorem k_dupX1 (C : KCx tbl nm cod ml ret p meth c Z a0) (P : KPos wd s' p l e R s m args below meth c Z own n0 h0 ws T h cells slots) {x y : Value} (hd : decode cod pc = .ok (.dup_x1, 1)) (hc : x.category = 1) (hc' : y.category = 1) {pc' : Nat} (hp : pc + 1 = pc') (k' : KGo p e below K T m pc' Ls (x :: y :: x :: st)) : KGo p e below K T m pc Ls (x :: y :: st) := by
  subst hp; exact k'.step fun t q => XS.dupX1 P.here C.1 rfl (hb C.cdE hd) rfl hc hc' q
theorem k_dup2 (C : KCx tbl nm cod ml ret p meth c Z a0) (P : KPos wd s' p l e R s m args below meth c Z own n0 h0 ws T h cells slots) {x y : Value} (hd : decode cod pc = .ok (.dup2, 1)) (hc : x.category = 1) (hc' : y.category = 1) {pc' : Nat} (hp : pc + 1 = pc') (k' : KGo p e below K T m pc' Ls (x :: y :: x :: y :: st)) : KGo p e below K T m pc Ls (x :: y :: st) := by
  subst hp; exact k'.step fun t q => XT.dup2 P.here C.1 rfl (hb C.cdE hd) rfl hc hc' q
theorem k_dload (C : KCx tbl nm cod ml ret p meth c Z a0) (P : KPos wd s' p l e R s m args below meth c Z own n0 h0 ws T h cells slots) {k : Nat} {v : UInt64} (hd : decode cod pc = .ok (.dload k, 2)) (hl : Ls[k]? = some (.val (.double v))) {pc' : Nat} (hp : pc + 2 = pc') (k' : KGo p e below K T m pc' Ls (.double v :: st)) : KGo p e below K T m pc Ls (st) := by
  subst hp; exact k'.step fun t q => XS.dload P.here C.1 rfl (hb C.cdE hd) hl q
theorem k_dloadN (C : KCx tbl nm cod ml ret p meth c Z a0) (P : KPos wd s' p l e R s m args below meth c Z own n0 h0 ws T h cells slots) {k : Fin 4} {v : UInt64} (hd : decode cod pc = .ok (.dload_n k, 1)) (hl : Ls[k.val]? = some (.val (.double v))) {pc' : Nat} (hp : pc + 1 = pc') (k' : KGo p e below K T m pc' Ls (.double v :: st)) : KGo p e below K T m pc Ls (st) := by
  subst hp; exact k'.step fun t q => XS.dloadN P.here C.1 rfl (hb C.cdE hd) hl q
theorem k_dstore (C : KCx tbl nm cod ml ret p meth c Z a0) (P : KPos wd s' p l e R s m args below meth c Z own n0 h0 ws T h cells slots) {k : Nat} {x : UInt64} {l' : Array Slot} (hd : decode cod pc = .ok (.dstore k, 2)) (hl : storeLocals Ls k (.double x) = some l') {pc' : Nat} (hp : pc + 2 = pc') (k' : KGo p e below K T m pc' l' (st)) : KGo p e below K T m pc Ls (.double x :: st) := by
  subst hp; exact k'.step fun t q => XS.dstore P.here C.1 rfl (hb C.cdE hd) rfl hl q
theorem k_dstoreN (C : KCx tbl nm cod ml ret p meth c Z a0) (P : KPos wd s' p l e R s m args below meth c Z own n0 h0 ws T h cells slots) {k : Fin 4} {x : UInt64} {l' : Array Slot} (hd : decode cod pc = .ok (.dstore_n k, 1)) (hl : storeLocals Ls k.val (.double x) = some l') {pc' : Nat} (hp : pc + 1 = pc') (k' : KGo p e below K T m pc' l' (st)) : KGo p e below K T m pc Ls (.double x :: st) := by
  subst hp; exact k'.step fun t q => XS.dstoreN P.here C.1 rfl (hb C.cdE hd) rfl hl q
theorem k_dconst0 (C : KCx tbl nm cod ml ret p meth c Z a0) (P : KPos wd s' p l e R s m args below meth c Z own n0 h0 ws T h cells slots) {z : UInt64} (hd : decode cod pc = .ok (.dconst 0, 1)) (hz : FP.dconst0 = z) {pc' : Nat} (hp : pc + 1 = pc') (k' : KGo p e below K T m pc' Ls (.double z :: st)) : KGo p e below K T m pc Ls (st) := by
  subst hp; exact k'.step fun t q => XS.dconst0 P.here C.1 rfl (hb C.cdE hd) hz q
theorem k_dconst1 (C : KCx tbl nm cod ml ret p meth c Z a0) (P : KPos wd s' p l e R s m args below meth c Z own n0 h0 ws T h cells slots) {z : UInt64} (hd : decode cod pc = .ok (.dconst 1, 1)) (hz : FP.dconst1 = z) {pc' : Nat} (hp : pc + 1 = pc') (k' : KGo p e below K T m pc' Ls (.double z :: st)) : KGo p e below K T m pc Ls (st) := by
  subst hp; exact k'.step fun t q => XS.dconst1 P.here C.1 rfl (hb C.cdE hd) hz q
theorem k_i2d (C : KCx tbl nm cod ml ret p meth c Z a0) (P : KPos wd s' p l e R s m args below meth c Z own n0 h0 ws T h cells slots) {x : Int32} (hd : decode cod pc = .ok (.i2d, 1))  {pc' : Nat} (hp : pc + 1 = pc') (k' : KGo p e below K T m pc' Ls (.double (FP.i2d x) :: st)) : KGo p e below K T m pc Ls (.int x :: st) := by
  subst hp; exact k'.step fun t q => XS.i2dS P.here C.1 rfl (hb C.cdE hd) rfl rfl q
theorem k_l2d (C : KCx tbl nm cod ml ret p meth c Z a0) (P : KPos wd s' p l e R s m args below meth c Z own n0 h0 ws T h cells slots) {x : Int64} (hd : decode cod pc = .ok (.l2d, 1))  {pc' : Nat} (hp : pc + 1 = pc') (k' : KGo p e below K T m pc' Ls (.double (FP.l2d x) :: st)) : KGo p e below K T m pc Ls (.long x :: st) := by
  subst hp; exact k'.step fun t q => XS.l2dS P.here C.1 rfl (hb C.cdE hd) rfl rfl q
theorem k_dneg (C : KCx tbl nm cod ml ret p meth c Z a0) (P : KPos wd s' p l e R s m args below meth c Z own n0 h0 ws T h cells slots) {x : UInt64} (hd : decode cod pc = .ok (.dneg, 1))  {pc' : Nat} (hp : pc + 1 = pc') (k' : KGo p e below K T m pc' Ls (.double (FP.dneg x) :: st)) : KGo p e below K T m pc Ls (.double x :: st) := by
  subst hp; exact k'.step fun t q => XS.dnegS P.here C.1 rfl (hb C.cdE hd) rfl rfl q
theorem k_dcmp (C : KCx tbl nm cod ml ret p meth c Z a0) (P : KPos wd s' p l e R s m args below meth c Z own n0 h0 ws T h cells slots) {o : CmpOp} {x y : UInt64} {z : Int32} (hd : decode cod pc = .ok (.dcmp o, 1)) (hz : cmpValue (FP.dcmp x y) o = z) {pc' : Nat} (hp : pc + 1 = pc') (k' : KGo p e below K T m pc' Ls (.int z :: st)) : KGo p e below K T m pc Ls (.double y :: .double x :: st) := by
  subst hp; exact k'.step fun t q => XS.dcmpS P.here C.1 rfl (hb C.cdE hd) rfl hz q
theorem k_dadd (C : KCx tbl nm cod ml ret p meth c Z a0) (P : KPos wd s' p l e R s m args below meth c Z own n0 h0 ws T h cells slots) {x y z : UInt64} (hd : decode cod pc = .ok (.dadd, 1)) (hn : Jvm.Free.Fl.NoNaN64 (FP.dadd x y)) (hz : FP.dadd x y = z) {pc' : Nat} (hp : pc + 1 = pc') (k' : KGo p e below K T m pc' Ls (.double z :: st)) : KGo p e below K T m pc Ls (.double y :: .double x :: st) := by
  subst hp; exact k'.step fun t q => XS.daddS P.here C.1 rfl (hb C.cdE hd) rfl hn hz q
theorem k_dsub (C : KCx tbl nm cod ml ret p meth c Z a0) (P : KPos wd s' p l e R s m args below meth c Z own n0 h0 ws T h cells slots) {x y z : UInt64} (hd : decode cod pc = .ok (.dsub, 1)) (hn : Jvm.Free.Fl.NoNaN64 (FP.dsub x y)) (hz : FP.dsub x y = z) {pc' : Nat} (hp : pc + 1 = pc') (k' : KGo p e below K T m pc' Ls (.double z :: st)) : KGo p e below K T m pc Ls (.double y :: .double x :: st) := by
  subst hp; exact k'.step fun t q => XS.dsubS P.here C.1 rfl (hb C.cdE hd) rfl hn hz q
theorem k_dmul (C : KCx tbl nm cod ml ret p meth c Z a0) (P : KPos wd s' p l e R s m args below meth c Z own n0 h0 ws T h cells slots) {x y z : UInt64} (hd : decode cod pc = .ok (.dmul, 1)) (hn : Jvm.Free.Fl.NoNaN64 (FP.dmul x y)) (hz : FP.dmul x y = z) {pc' : Nat} (hp : pc + 1 = pc') (k' : KGo p e below K T m pc' Ls (.double z :: st)) : KGo p e below K T m pc Ls (.double y :: .double x :: st) := by
  subst hp; exact k'.step fun t q => XS.dmulS P.here C.1 rfl (hb C.cdE hd) rfl hn hz q
theorem k_ddiv (C : KCx tbl nm cod ml ret p meth c Z a0) (P : KPos wd s' p l e R s m args below meth c Z own n0 h0 ws T h cells slots) {x y z : UInt64} (hd : decode cod pc = .ok (.ddiv, 1)) (hn : Jvm.Free.Fl.NoNaN64 (FP.ddiv x y)) (hz : FP.ddiv x y = z) {pc' : Nat} (hp : pc + 1 = pc') (k' : KGo p e below K T m pc' Ls (.double z :: st)) : KGo p e below K T m pc Ls (.double y :: .double x :: st) := by
  subst hp; exact k'.step fun t q => XS.ddivS P.here C.1 rfl (hb C.cdE hd) rfl hn hz q
/-! ### objects and arrays -/
def KOb (Z : State) (h : Heap) (a : Addr) (Cn : String) (lay : List (String × String × String)) (vs : List Value) : Prop :=
  Exa Z h a Cn ∧ lay.length = vs.length ∧ ∀ (i : Nat) (O n d : String) (v : Value), lay[i]? = some (O, n, d) → vs[i]? = some v → Fld Z h a O n d v
def KLay (Z : State) (a0 : Array Value) (Cn : String) (lay : List (String × String × String)) : Prop :=
  (∀ x ∈ lay, Laid Z a0 Cn x.1 x.2.1 x.2.2 ∧ (parseFieldDescriptor x.2.2).isSome = true) ∧ (lay.map (·.2.1)).Nodup
def KVA (Z : State) (h : Heap) (a : Addr) (k : ClassId) (ty : FieldType) (N : Nat) (f : Nat → Value) : Prop :=
  ∃ cl : Cell, Arr Z h a cl ty ∧ cl.cls = k ∧ cl.slots.size = N ∧ N < 2 ^ 31 ∧ ∀ j, j < N → cl.slots[j]? = some (f j)
section Facts
variable {Cn O n d : String} {lay : List (String × String × String)} {vs : List Value} {v : Value} {sl : Nat} {k : ClassId} {ty : FieldType} {N : Nat} {f : Nat → Value} {ws' : List Addr}
theorem KOb.exa (F : KOb Z h a Cn lay vs) : Exa Z h a Cn := F.1
theorem KOb.lt (F : KOb Z h a Cn lay vs) : a < h.size := F.1.lt
theorem KOb.fld (F : KOb Z h a Cn lay vs) (i : Nat) (q : lay[i]? = some (O, n, d)) (r : vs[i]? = some v) : Fld Z h a O n d v := F.2.2 i O n d v q r
theorem KOb.ext (F : KOb Z h a Cn lay vs) (E : Ext h h') : KOb Z h' a Cn lay vs := ⟨F.1.ext E, F.2.1, fun i O n d v q r => (F.2.2 i O n d v q r).ext E⟩
theorem KOb.keep (F : KOb Z h a Cn lay vs) (E : Keep h h' ws') (q : a ∉ ws') : KOb Z h' a Cn lay vs := ⟨F.1.keep E, F.2.1, fun i O n d v u r => (F.2.2 i O n d v u r).keep E q⟩
theorem KOb.other (F : KOb Z h a Cn lay vs) (W : Wr h h' b sl v) (q : a ≠ b) : KOb Z h' a Cn lay vs := ⟨F.1.wr W, F.2.1, fun i O n d v u r => (F.2.2 i O n d v u r).other W (Or.inl q)⟩
theorem KOb.put (F : KOb Z h a Cn lay vs) (L : KLay Z a0 Cn lay) (i : Nat) (q : lay[i]? = some (O, n, d)) (W : Wr h h' a (Jvm.RoadKit.slotOf Z O n d) v) {vs' : List Value} (hv : vs.set i v = vs') : KOb Z h' a Cn lay vs' := by
  subst hv
  refine ⟨F.1.wr W, by rw [List.length_set]; exact F.2.1, fun j O' n' d' v' u r => ?_⟩
  by_cases e : i = j
  · subst e
    cases q.symm.trans u
    have hi : i < vs.length := by rw [← F.2.1]; exact (List.getElem?_eq_some_iff.mp q).1
    rw [List.getElem?_set_self hi] at r
    cases r
    exact (F.2.2 i O n d _ q (List.getElem?_eq_getElem hi)).same W
  · rw [List.getElem?_set_ne e] at r
    obtain ⟨l1, t1⟩ := L.1 _ (List.mem_of_getElem? u)
    obtain ⟨l2, t2⟩ := L.1 _ (List.mem_of_getElem? q)
    obtain ⟨t, ht⟩ := Option.isSome_iff_exists.mp t1
    obtain ⟨t', ht'⟩ := Option.isSome_iff_exists.mp t2
    refine (F.2.2 j O' n' d' v' u r).other W (Or.inr (slot_ne l1 l2 (fun en => ?_) ht ht'))
    have m1 : (lay.map (·.2.1))[j]? = some n' := by rw [List.getElem?_map, u]; rfl
    have m2 : (lay.map (·.2.1))[i]? = some n' := by rw [List.getElem?_map, q]; exact congrArg some en.symm
    exact e (((List.getElem?_inj (List.getElem?_eq_some_iff.mp m2).1 L.2).mp (m2.trans m1.symm)))
theorem KOb.new (E : Exa Z h a Cn) (D : ∀ {O nm d : String} {ty : FieldType}, Laid Z a0 Cn O nm d → parseFieldDescriptor d = some ty → Fld Z h a O nm d (defaultValue ty)) (L : KLay Z a0 Cn lay) (hv : (lay.map fun x => (parseFieldDescriptor x.2.2).map defaultValue) = vs.map some) : KOb Z h a Cn lay vs := by
  have hl : lay.length = vs.length := by have := congrArg List.length hv; simpa using this
  refine ⟨E, hl, fun i O n d v q r => ?_⟩
  obtain ⟨l1, t1⟩ := L.1 _ (List.mem_of_getElem? q)
  obtain ⟨t, ht⟩ := Option.isSome_iff_exists.mp t1
  have e1 : (lay.map fun x => (parseFieldDescriptor x.2.2).map defaultValue)[i]? = some (some (defaultValue t)) := by rw [List.getElem?_map, q]; show some ((parseFieldDescriptor d).map defaultValue) = _; rw [show parseFieldDescriptor d = some t from ht]; rfl
  rw [hv, List.getElem?_map, r] at e1
  cases e1
  exact D l1 ht
theorem KOb.one (E : Exa Z h a Cn) (F : Fld Z h a O n d v) : KOb Z h a Cn [(O, n, d)] [v] := ⟨E, rfl, fun i O' n' d' v' q r => by
  match i, q, r with
  | 0, q, r => cases q; cases r; exact F⟩
theorem KOb.two {O2 n2 d2 : String} {v2 : Value} (E : Exa Z h a Cn) (F : Fld Z h a O n d v) (F2 : Fld Z h a O2 n2 d2 v2) : KOb Z h a Cn [(O, n, d), (O2, n2, d2)] [v, v2] := ⟨E, rfl, fun i O' n' d' v' q r => by
  match i, q, r with
  | 0, q, r => cases q; cases r; exact F
  | 1, q, r => cases q; cases r; exact F2⟩
theorem KVA.lt (F : KVA Z h a k ty N f) : a < h.size := by obtain ⟨c, A, -⟩ := F; exact A.lt
theorem KVA.ext (F : KVA Z h a k ty N f) (E : Ext h h') : KVA Z h' a k ty N f := by obtain ⟨c, A, r⟩ := F; exact ⟨c, A.ext E, r⟩
theorem KVA.keep (F : KVA Z h a k ty N f) (E : Keep h h' ws') (q : a ∉ ws') : KVA Z h' a k ty N f := by obtain ⟨c, A, r⟩ := F; exact ⟨c, ⟨E.2.1 a c A.1 q, A.2⟩, r⟩
theorem KVA.other (F : KVA Z h a k ty N f) (W : Wr h h' b sl v) (q : a ≠ b) : KVA Z h' a k ty N f := by obtain ⟨c, A, r⟩ := F; exact ⟨c, A.other W q, r⟩
theorem KVA.congr (F : KVA Z h a k ty N f) {g : Nat → Value} (q : ∀ j, j < N → f j = g j) : KVA Z h a k ty N g := by obtain ⟨c, A, r1, r2, r3, r4⟩ := F; exact ⟨c, A, r1, r2, r3, fun j hj => by rw [← q j hj]; exact r4 j hj⟩
theorem KVA.set (F : KVA Z h a k ty N f) (W : Wr h h' a sl v) {g : Nat → Value} (q : ∀ j, j < N → (if j = sl then v else f j) = g j) : KVA Z h' a k ty N g := by
  obtain ⟨c, A, r1, r2, r3, r4⟩ := F
  refine ⟨c.setSlot sl v, A.same W, r1, by rw [sz_set]; exact r2, r3, fun j hj => ?_⟩
  rw [← q j hj]
  by_cases e : j = sl
  · subst e; rw [if_pos rfl]; simp [Cell.setSlot, r2, hj]
  · rw [if_neg e]; show (c.slots.setIfInBounds sl v)[j]? = _; rw [Array.getElem?_setIfInBounds_ne (Ne.symm e)]; exact r4 j hj
theorem KVA.new {z : Int32} (A : Arr Z h a (newA k ty z) ty) (q : z.toInt = (N : Int)) : KVA Z h a k ty N (fun _ => defaultValue ty) := by
  have e : z.toNatClampNeg = N := by simp only [Int32.toNatClampNeg]; omega
  have := Int32.toInt_lt z
  exact ⟨_, A, rfl, (sz_new _ _ _).trans e, by omega, fun j hj => by simp [newA, e, hj]⟩
theorem KVA.ne_ob {kk : Nat} (F : KVA Z h a k ty N f) (G : Exa Z h b Cn) (wi : (Cond.instantiable Cn kk).before a0 Z = true) : a ≠ b := by obtain ⟨c, A, -⟩ := F; exact (ne_arr G wi A).symm
theorem KVA.start {cl : Cell} (A : Arr Z h a cl ty) (hs : cl.slots.size = N) (hN : N < 2 ^ 31) (H : ∀ j, j < N → cl.slots[j]? = some (f j)) : KVA Z h a cl.cls ty N f := ⟨cl, A, rfl, hs, hN, H⟩
theorem k_cat_ref {v : Value} (hv : v.isRef = true) : v.category = 1 := by rcases ref_cases hv with rfl | ⟨_, rfl⟩ <;> rfl
theorem k_fits_ref {v : Value} (ht : ty.isReference = true) (hv : v.isRef = true) : fits ty v = true := by rcases ref_cases hv with rfl | ⟨_, rfl⟩ <;> cases ty <;> first | rfl | (cases ht; done)
theorem k_ext_of_keep (E : Keep h h' []) : Ext h h' := ⟨E.1, fun x c q => E.2.1 x c q nin0⟩
theorem k_idx {j : Int32} {J : Nat} (hj : j.toInt = (J : Int)) {S : Nat} (hJ : J < S) : ¬ (j < 0 ∨ S ≤ j.toNatClampNeg) ∧ j.toNatClampNeg = J := by
  have e : j.toNatClampNeg = J := by simp only [Int32.toNatClampNeg]; omega
  refine ⟨?_, e⟩
  rw [e, Int32.lt_iff_toInt_lt]
  have : (0 : Int32).toInt = 0 := rfl
  omega
end Facts
/-! ### steps on the heap -/
theorem k_getf {R0 O n d Cn : String} {index : Nat} {lay : List (String × String × String)} {vs : List Value} {v : Value} (C : KCx tbl nm cod ml ret p meth c Z a0) (P : KPos wd s' p l e R s m args below meth c Z own n0 h0 ws T h cells slots) (w : (Jvm.Cond.fieldLink own index R0 n d).before a0 Z = true) (via : Via Z R0 O n d) (F : KOb Z h a Cn lay vs) (i : Nat) (q : lay[i]? = some (O, n, d)) (r : vs[i]? = some v)
    (hd : decode cod pc = .ok (.getfield index, 3)) {pc' : Nat} (hp : pc + 3 = pc') (k' : ∀ T', KPos wd s' p l e R s m args below meth c Z own n0 h0 ws T' h cells slots → KGo p e below K T' m pc' Ls (v :: st)) : KGo p e below K T m pc Ls (.ref a :: st) := by
  subst hp
  obtain ⟨L, X, B, hZ, hown, eT, r1⟩ := P
  obtain ⟨T', X', e', stp⟩ := getF X C.1 hZ hown (host := "") (Or.inl w) via eT (F.fld i q r) (g := mkF m pc Ls (.ref a :: st)) rfl rfl (hb C.cdE hd)
  exact (k' T' ⟨L, X', B, hZ, hown, e', r1⟩).step stp
theorem k_putf {R0 O n d Cn : String} {index kk : Nat} {lay : List (String × String × String)} {vs : List Value} {v v' : Value} {ty : FieldType} (C : KCx tbl nm cod ml ret p meth c Z a0) (P : KPos wd s' p l e R s m args below meth c Z own n0 h0 ws T h cells slots) (w : (Jvm.Cond.fieldLink own index R0 n d).before a0 Z = true) (via : Via Z R0 O n d) (F : KOb Z h a Cn lay vs) (i : Nat) (q : lay[i]? = some (O, n, d))
    (L : (Jvm.Cond.lays Cn O n d).before a0 Z = true ∨ ((Jvm.Cond.laysFinal Cn O n d).before a0 Z = true ∧ own = O ∧ nm = "<init>")) (wi : (Jvm.Cond.instantiable Cn kk).before a0 Z = true) (hty : parseFieldDescriptor d = some ty) (hn : narrow ty v = v') (hf : fits ty v' = true)
    (hd : decode cod pc = .ok (.putfield index, 3)) (ha : n0 ≤ a) (hk : a ∈ ws ∨ h0.size ≤ a) {pc' : Nat} (hp : pc + 3 = pc') (k' : ∀ T' h', KPos wd s' p l e R s m args below meth c Z own n0 h0 ws T' h' cells slots → Wr h h' a (Jvm.RoadKit.slotOf Z O n d) v' → KGo p e below K T' m pc' Ls st) : KGo p e below K T m pc Ls (v :: .ref a :: st) := by
  subst hp
  obtain ⟨Lo, X, B, hZ, hown, eT, r1, r2, r3⟩ := P
  have hi : i < vs.length := by rw [← F.2.1]; exact (List.getElem?_eq_some_iff.mp q).1
  obtain ⟨T', h', X', e', W, stp⟩ := putFN X C.1 hZ hown w via eT (F.fld i q (List.getElem?_eq_getElem hi)) F.1 (L.imp id fun z => ⟨z.1, z.2.1, C.nmE.trans z.2.2⟩) wi hty hn hf (g := mkF m pc Ls (v :: .ref a :: st)) rfl rfl (hb C.cdE hd)
  exact (k' T' h' ⟨_, X', B.mono (Nat.le_of_eq W.size.symm), hZ, hown, e', W.size ▸ r1, Fr.snoc X' r2 ha, r3.wr W hk⟩ W).step stp
theorem k_gets {R0 O n d : String} {index : Nat} {v : Value} (C : KCx tbl nm cod ml ret p meth c Z a0) (P : KPos wd s' p l e R s m args below meth c Z own n0 h0 ws T h cells slots) (w : (Jvm.Cond.fieldLink own index R0 n d).before a0 Z = true) (via : Via Z R0 O n d) (F : Sta Z h O n d v) (hd : decode cod pc = .ok (.getstatic index, 3)) {pc' : Nat} (hp : pc + 3 = pc')
    (k' : ∀ T', KPos wd s' p l e R s m args below meth c Z own n0 h0 ws T' h cells slots → KGo p e below K T' m pc' Ls (v :: st)) : KGo p e below K T m pc Ls st := by
  subst hp
  obtain ⟨L, X, B, hZ, hown, eT, r1⟩ := P
  obtain ⟨T', X', e', stp⟩ := getS2 X C.1 hZ hown (host := "") (Or.inl w) via eT F (g := mkF m pc Ls st) rfl (hb C.cdE hd)
  exact (k' T' ⟨L, X', B, hZ, hown, e', r1⟩).step stp
theorem k_newo {Cn : String} {index n : Nat} (C : KCx tbl nm cod ml ret p meth c Z a0) (P : KPos wd s' p l e R s m args below meth c Z own n0 h0 ws T h cells slots) (w : (Jvm.Cond.classLink own index Cn).before a0 Z = true) (wi : (Jvm.Cond.instantiable Cn n).before a0 Z = true) (wz : (Jvm.Cond.initialized Cn).before a0 Z = true) (hd : decode cod pc = .ok (.new index, 3))
    {cells' slots' : Nat} (hc : cells + 1 = cells') (hs : slots + n = slots') (hc' : cells' ≤ R.cells) (hs' : slots' ≤ R.slots) {pc' : Nat} (hp : pc + 3 = pc')
    (k' : ∀ T' h' a, KPos wd s' p l e R s m args below meth c Z own n0 h0 ws T' h' cells' slots' → h.size = a → n0 ≤ a → h0.size ≤ a → Ext h h' → Exa Z h' a Cn → (∀ {O nm d : String} {ty : FieldType}, Laid Z a0 Cn O nm d → parseFieldDescriptor d = some ty → Fld Z h' a O nm d (defaultValue ty)) → KGo p e below K T' m pc' Ls (.ref a :: st)) : KGo p e below K T m pc Ls st := by
  subst hp hc hs
  obtain ⟨Lo, X, B, hZ, hown, eT, r1, r2, r3⟩ := P
  obtain ⟨T', h', X', e', E, A, D, -, stp⟩ := newO X C.1 hZ hown w wi wz eT (g := mkF m pc Ls st) rfl (hb C.cdE hd) hc' hs'
  exact (k' T' h' _ ⟨_, X', B.mono E.1, hZ, hown, e', Nat.le_trans r1 E.1, r2, r3.ext E⟩ rfl r1 r3.1 E A D).step stp
theorem k_newp {aty : ArrayType} {z : Int32} {N cap : Nat} (C : KCx tbl nm cod ml ret p meth c Z a0) (P : KPos wd s' p l e R s m args below meth c Z own n0 h0 ws T h cells slots) (w : (Jvm.Cond.arrayClass (newarray.typeOf aty)).before a0 Z = true) (hd : decode cod pc = .ok (.newarray aty, 2)) (hN : z.toInt = (N : Int)) (hcap : N ≤ cap) (hb8 : cap * 8 ≤ 536870912)
    {cells' slots' : Nat} (hc : cells + 1 = cells') (hs : slots + cap = slots') (hc' : cells' ≤ R.cells) (hs' : slots' ≤ R.slots) {pc' : Nat} (hp : pc + 2 = pc')
    (k' : ∀ T' h' a k, KPos wd s' p l e R s m args below meth c Z own n0 h0 ws T' h' cells' slots' → h.size = a → n0 ≤ a → h0.size ≤ a → Ext h h' → KVA Z h' a k (newarray.typeOf aty) N (fun _ => defaultValue (newarray.typeOf aty)) → KGo p e below K T' m pc' Ls (.ref a :: st)) : KGo p e below K T m pc Ls (.int z :: st) := by
  subst hp hc hs
  obtain ⟨Lo, X, B, hZ, hown, eT, r1, r2, r3⟩ := P
  have e0 : ¬ z < 0 := by rw [Int32.lt_iff_toInt_lt]; have : (0 : Int32).toInt = 0 := rfl; omega
  have e1 : z.toNatClampNeg ≤ cap := by simp only [Int32.toNatClampNeg]; omega
  obtain ⟨T', h', kA, X', e', E, A, stp⟩ := newP X C.1 hZ w eT (g := mkF m pc Ls (.int z :: st)) rfl (hb C.cdE hd) rfl e0 e1 hb8 hc' hs'
  exact (k' T' h' _ kA ⟨_, X', B.mono E.1, hZ, hown, e', Nat.le_trans r1 E.1, r2, r3.ext E⟩ rfl r1 r3.1 E (KVA.new A hN)).step stp
theorem k_newr {Cn : String} {index : Nat} {z : Int32} {N cap : Nat} (C : KCx tbl nm cod ml ret p meth c Z a0) (P : KPos wd s' p l e R s m args below meth c Z own n0 h0 ws T h cells slots) (w : (Jvm.Cond.classLink own index Cn).before a0 Z = true) (w2 : (Jvm.Cond.arrayOver (.object Cn)).before a0 Z = true) (hd : decode cod pc = .ok (.anewarray index, 3)) (hN : z.toInt = (N : Int)) (hcap : N ≤ cap) (hb8 : cap * 8 ≤ 536870912)
    {cells' slots' : Nat} (hc : cells + 1 = cells') (hs : slots + cap = slots') (hc' : cells' ≤ R.cells) (hs' : slots' ≤ R.slots) {pc' : Nat} (hp : pc + 3 = pc')
    (k' : ∀ T' h' a k, KPos wd s' p l e R s m args below meth c Z own n0 h0 ws T' h' cells' slots' → h.size = a → n0 ≤ a → h0.size ≤ a → Ext h h' → KVA Z h' a k (.object Cn) N (fun _ => .null) → Ovr Z k Cn → KGo p e below K T' m pc' Ls (.ref a :: st)) : KGo p e below K T m pc Ls (.int z :: st) := by
  subst hp hc hs
  obtain ⟨Lo, X, B, hZ, hown, eT, r1, r2, r3⟩ := P
  have e0 : ¬ z < 0 := by rw [Int32.lt_iff_toInt_lt]; have : (0 : Int32).toInt = 0 := rfl; omega
  have e1 : z.toNatClampNeg ≤ cap := by simp only [Int32.toNatClampNeg]; omega
  obtain ⟨T', h', kA, X', e', E, A, O, stp⟩ := newR X C.1 hZ hown w w2 eT (g := mkF m pc Ls (.int z :: st)) rfl (hb C.cdE hd) rfl e0 e1 hb8 hc' hs'
  exact (k' T' h' _ kA ⟨_, X', B.mono E.1, hZ, hown, e', Nat.le_trans r1 E.1, r2, r3.ext E⟩ rfl r1 r3.1 E (KVA.new A hN) O).step stp
theorem k_newra {Cn ad : String} {ty : FieldType} {index : Nat} {z : Int32} {N cap : Nat} (C : KCx tbl nm cod ml ret p meth c Z a0) (P : KPos wd s' p l e R s m args below meth c Z own n0 h0 ws T h cells slots) (hC : (FieldType.array ty).toString = Cn) (had : "[" ++ Cn = ad) (w : (Jvm.Cond.classLink own index Cn).before a0 Z = true) (w2 : (Jvm.Cond.arrayOver (.array ty)).before a0 Z = true) (hd : decode cod pc = .ok (.anewarray index, 3)) (hN : z.toInt = (N : Int)) (hcap : N ≤ cap) (hb8 : cap * 8 ≤ 536870912)
    {cells' slots' : Nat} (hc : cells + 1 = cells') (hs : slots + cap = slots') (hc' : cells' ≤ R.cells) (hs' : slots' ≤ R.slots) {pc' : Nat} (hp : pc + 3 = pc')
    (k' : ∀ T' h' a k, KPos wd s' p l e R s m args below meth c Z own n0 h0 ws T' h' cells' slots' → h.size = a → n0 ≤ a → h0.size ≤ a → Ext h h' → KVA Z h' a k (.array ty) N (fun _ => .null) → Exa Z h' a ad → OvrA Z k ty Cn → KGo p e below K T' m pc' Ls (.ref a :: st)) : KGo p e below K T m pc Ls (.int z :: st) := by
  subst hp hc hs
  obtain ⟨Lo, X, B, hZ, hown, eT, r1, r2, r3⟩ := P
  have e0 : ¬ z < 0 := by rw [Int32.lt_iff_toInt_lt]; have : (0 : Int32).toInt = 0 := rfl; omega
  have e1 : z.toNatClampNeg ≤ cap := by simp only [Int32.toNatClampNeg]; omega
  obtain ⟨T', h', kA, X', e', E, A, Ex, O, stp⟩ := newRA X C.1 hZ hown hC w w2 eT (g := mkF m pc Ls (.int z :: st)) rfl (hb C.cdE hd) rfl e0 e1 hb8 hc' hs' had
  exact (k' T' h' _ kA ⟨_, X', B.mono E.1, hZ, hown, e', Nat.le_trans r1 E.1, r2, r3.ext E⟩ rfl r1 r3.1 E (KVA.new A hN) Ex O).step stp
theorem k_arrlen {k : ClassId} {ty : FieldType} {N : Nat} {f : Nat → Value} {z : Int32} (C : KCx tbl nm cod ml ret p meth c Z a0) (P : KPos wd s' p l e R s m args below meth c Z own n0 h0 ws T h cells slots) (V : KVA Z h a k ty N f) (hd : decode cod pc = .ok (.arraylength, 1)) (hz : z.toInt = (N : Int)) {pc' : Nat} (hp : pc + 1 = pc') (k' : KGo p e below K T m pc' Ls (.int z :: st)) : KGo p e below K T m pc Ls (.ref a :: st) := by
  subst hp
  obtain ⟨L, X, B, hZ, hown, eT, r1⟩ := P
  obtain ⟨cl, A, -, S, hN, -⟩ := V
  have e : cl.slots.size.toInt32 = z := by rw [S]; exact Int32.toInt_inj.mp (by rw [len_toInt hN, hz])
  subst e
  exact k'.step fun t q => X.arraylength C.1 (by rw [eT]; exact A.1) (State.isArrayOf_alike hZ.alike A.2.1) (g := mkF m pc Ls (.ref a :: st)) rfl rfl (hb C.cdE hd) t q
theorem k_iaload {k : ClassId} {N J : Nat} {f : Nat → Value} {j : Int32} {v : Value} (C : KCx tbl nm cod ml ret p meth c Z a0) (P : KPos wd s' p l e R s m args below meth c Z own n0 h0 ws T h cells slots) (V : KVA Z h a k .int N f) (hd : decode cod pc = .ok (.iaload, 1)) (hj : j.toInt = (J : Int)) (hJ : J < N) (hv : f J = v) {pc' : Nat} (hp : pc + 1 = pc') (k' : KGo p e below K T m pc' Ls (v :: st)) : KGo p e below K T m pc Ls (.int j :: .ref a :: st) := by
  subst hp hv
  obtain ⟨L, X, B, hZ, hown, eT, r1⟩ := P
  obtain ⟨cl, A, -, S, hN, H⟩ := V
  obtain ⟨q1, q2⟩ := k_idx hj (S.symm ▸ hJ)
  exact k'.step fun t q => X.iaload C.1 (by rw [eT]; exact A.1) (State.isArrayOf_alike hZ.alike A.2.1) A.2.2 q1 (by rw [q2]; exact H J hJ) (g := mkF m pc Ls (.int j :: .ref a :: st)) rfl rfl (hb C.cdE hd) t q
theorem k_laload {k : ClassId} {N J : Nat} {f : Nat → Value} {j : Int32} {v : Value} (C : KCx tbl nm cod ml ret p meth c Z a0) (P : KPos wd s' p l e R s m args below meth c Z own n0 h0 ws T h cells slots) (V : KVA Z h a k .long N f) (hd : decode cod pc = .ok (.laload, 1)) (hj : j.toInt = (J : Int)) (hJ : J < N) (hv : f J = v) {pc' : Nat} (hp : pc + 1 = pc') (k' : KGo p e below K T m pc' Ls (v :: st)) : KGo p e below K T m pc Ls (.int j :: .ref a :: st) := by
  subst hp hv
  obtain ⟨L, X, B, hZ, hown, eT, r1⟩ := P
  obtain ⟨cl, A, -, S, hN, H⟩ := V
  obtain ⟨q1, q2⟩ := k_idx hj (S.symm ▸ hJ)
  exact k'.step fun t q => X.laload C.1 (by rw [eT]; exact A.1) (State.isArrayOf_alike hZ.alike A.2.1) A.2.2 q1 (by rw [q2]; exact H J hJ) (g := mkF m pc Ls (.int j :: .ref a :: st)) rfl rfl (hb C.cdE hd) t q
theorem k_caload {k : ClassId} {N J : Nat} {f : Nat → Value} {j : Int32} {v : Value} (C : KCx tbl nm cod ml ret p meth c Z a0) (P : KPos wd s' p l e R s m args below meth c Z own n0 h0 ws T h cells slots) (V : KVA Z h a k .char N f) (hd : decode cod pc = .ok (.caload, 1)) (hj : j.toInt = (J : Int)) (hJ : J < N) (hv : f J = v) {pc' : Nat} (hp : pc + 1 = pc') (k' : KGo p e below K T m pc' Ls (v :: st)) : KGo p e below K T m pc Ls (.int j :: .ref a :: st) := by
  subst hp hv
  obtain ⟨L, X, B, hZ, hown, eT, r1⟩ := P
  obtain ⟨cl, A, -, S, hN, H⟩ := V
  obtain ⟨q1, q2⟩ := k_idx hj (S.symm ▸ hJ)
  exact k'.step fun t q => X.caload C.1 (by rw [eT]; exact A.1) (State.isArrayOf_alike hZ.alike A.2.1) A.2.2 q1 (by rw [q2]; exact H J hJ) (g := mkF m pc Ls (.int j :: .ref a :: st)) rfl rfl (hb C.cdE hd) t q
theorem k_baload {k : ClassId} {N J : Nat} {f : Nat → Value} {j : Int32} {v : Value} (C : KCx tbl nm cod ml ret p meth c Z a0) (P : KPos wd s' p l e R s m args below meth c Z own n0 h0 ws T h cells slots) (V : KVA Z h a k .byte N f) (hd : decode cod pc = .ok (.baload, 1)) (hj : j.toInt = (J : Int)) (hJ : J < N) (hv : f J = v) {pc' : Nat} (hp : pc + 1 = pc') (k' : KGo p e below K T m pc' Ls (v :: st)) : KGo p e below K T m pc Ls (.int j :: .ref a :: st) := by
  subst hp hv
  obtain ⟨L, X, B, hZ, hown, eT, r1⟩ := P
  obtain ⟨cl, A, -, S, hN, H⟩ := V
  obtain ⟨q1, q2⟩ := k_idx hj (S.symm ▸ hJ)
  exact k'.step fun t q => X.baloadBytes C.1 (by rw [eT]; exact A.1) (State.isArrayOf_alike hZ.alike A.2.1) A.2.2 q1 (by rw [q2]; exact H J hJ) (g := mkF m pc Ls (.int j :: .ref a :: st)) rfl rfl (hb C.cdE hd) t q
theorem k_daload {k : ClassId} {N J : Nat} {f : Nat → Value} {j : Int32} {v : Value} (C : KCx tbl nm cod ml ret p meth c Z a0) (P : KPos wd s' p l e R s m args below meth c Z own n0 h0 ws T h cells slots) (V : KVA Z h a k .double N f) (hd : decode cod pc = .ok (.daload, 1)) (hj : j.toInt = (J : Int)) (hJ : J < N) (hv : f J = v) {pc' : Nat} (hp : pc + 1 = pc') (k' : KGo p e below K T m pc' Ls (v :: st)) : KGo p e below K T m pc Ls (.int j :: .ref a :: st) := by
  subst hp hv
  obtain ⟨L, X, B, hZ, hown, eT, r1⟩ := P
  obtain ⟨cl, A, -, S, hN, H⟩ := V
  obtain ⟨q1, q2⟩ := k_idx hj (S.symm ▸ hJ)
  exact k'.step fun t q => X.daload C.1 (by rw [eT]; exact A.1) (State.isArrayOf_alike hZ.alike A.2.1) A.2.2 q1 (by rw [q2]; exact H J hJ) (g := mkF m pc Ls (.int j :: .ref a :: st)) rfl rfl (hb C.cdE hd) t q
theorem k_aaload {k : ClassId} {ty : FieldType} {N J : Nat} {f : Nat → Value} {j : Int32} {v : Value} (C : KCx tbl nm cod ml ret p meth c Z a0) (P : KPos wd s' p l e R s m args below meth c Z own n0 h0 ws T h cells slots) (V : KVA Z h a k ty N f) (hty : ty.isReference = true) (hd : decode cod pc = .ok (.aaload, 1)) (hj : j.toInt = (J : Int)) (hJ : J < N) (hv : f J = v) {pc' : Nat} (hp : pc + 1 = pc') (k' : KGo p e below K T m pc' Ls (v :: st)) : KGo p e below K T m pc Ls (.int j :: .ref a :: st) := by
  subst hp hv
  obtain ⟨L, X, B, hZ, hown, eT, r1⟩ := P
  obtain ⟨cl, A, -, S, hN, H⟩ := V
  obtain ⟨q1, q2⟩ := k_idx hj (S.symm ▸ hJ)
  exact k'.step fun t q => X.aaload C.1 (by rw [eT]; exact A.1) (State.isArrayOf_alike hZ.alike A.2.1) hty A.2.2 q1 (by rw [q2]; exact H J hJ) (g := mkF m pc Ls (.int j :: .ref a :: st)) rfl rfl (hb C.cdE hd) t q
theorem k_iastore {k : ClassId} {N J : Nat} {f g' : Nat → Value} {j : Int32} {x : Int32} (C : KCx tbl nm cod ml ret p meth c Z a0) (P : KPos wd s' p l e R s m args below meth c Z own n0 h0 ws T h cells slots) (V : KVA Z h a k .int N f) (hd : decode cod pc = .ok (.iastore, 1)) (hj : j.toInt = (J : Int)) (hJ : J < N) (hg' : ∀ i, i < N → (if i = J then (.int x : Value) else f i) = g' i) (ha : n0 ≤ a) (hk : a ∈ ws ∨ h0.size ≤ a) {pc' : Nat} (hp : pc + 1 = pc') (k' : ∀ T' h', KPos wd s' p l e R s m args below meth c Z own n0 h0 ws T' h' cells slots → Wr h h' a J (.int x) → KVA Z h' a k .int N g' → KGo p e below K T' m pc' Ls st) : KGo p e below K T m pc Ls (.int x :: .int j :: .ref a :: st) := by
  subst hp
  obtain ⟨Lo, X, B, hZ, hown, eT, r1, r2, r3⟩ := P
  have V0 := V
  obtain ⟨cl, A, -, S, hN, H⟩ := V
  obtain ⟨q1, q2⟩ := k_idx hj (S.symm ▸ hJ)
  obtain ⟨T', h', X', e', W, stp⟩ := stI X C.1 hZ eT A q1 (g := mkF m pc Ls (.int x :: .int j :: .ref a :: st)) rfl rfl (hb C.cdE hd)
  have W' := W
  rw [q2] at W'
  exact (k' T' h' ⟨_, X', B.mono (Nat.le_of_eq W.size.symm), hZ, hown, e', W.size ▸ r1, Fr.snoc X' r2 ha, r3.wr W hk⟩ W' (V0.set W' hg')).step stp
theorem k_lastore {k : ClassId} {N J : Nat} {f g' : Nat → Value} {j : Int32} {x : Int64} (C : KCx tbl nm cod ml ret p meth c Z a0) (P : KPos wd s' p l e R s m args below meth c Z own n0 h0 ws T h cells slots) (V : KVA Z h a k .long N f) (hd : decode cod pc = .ok (.lastore, 1)) (hj : j.toInt = (J : Int)) (hJ : J < N) (hg' : ∀ i, i < N → (if i = J then (.long x : Value) else f i) = g' i) (ha : n0 ≤ a) (hk : a ∈ ws ∨ h0.size ≤ a) {pc' : Nat} (hp : pc + 1 = pc') (k' : ∀ T' h', KPos wd s' p l e R s m args below meth c Z own n0 h0 ws T' h' cells slots → Wr h h' a J (.long x) → KVA Z h' a k .long N g' → KGo p e below K T' m pc' Ls st) : KGo p e below K T m pc Ls (.long x :: .int j :: .ref a :: st) := by
  subst hp
  obtain ⟨Lo, X, B, hZ, hown, eT, r1, r2, r3⟩ := P
  have V0 := V
  obtain ⟨cl, A, -, S, hN, H⟩ := V
  obtain ⟨q1, q2⟩ := k_idx hj (S.symm ▸ hJ)
  obtain ⟨T', h', X', e', W, stp⟩ := stJ X C.1 hZ eT A q1 (g := mkF m pc Ls (.long x :: .int j :: .ref a :: st)) rfl rfl (hb C.cdE hd)
  have W' := W
  rw [q2] at W'
  exact (k' T' h' ⟨_, X', B.mono (Nat.le_of_eq W.size.symm), hZ, hown, e', W.size ▸ r1, Fr.snoc X' r2 ha, r3.wr W hk⟩ W' (V0.set W' hg')).step stp
theorem k_castore {k : ClassId} {N J : Nat} {f g' : Nat → Value} {j : Int32} {x : Int32} (C : KCx tbl nm cod ml ret p meth c Z a0) (P : KPos wd s' p l e R s m args below meth c Z own n0 h0 ws T h cells slots) (V : KVA Z h a k .char N f) (hd : decode cod pc = .ok (.castore, 1)) (hj : j.toInt = (J : Int)) (hJ : J < N) (hg' : ∀ i, i < N → (if i = J then (.int (nar .char x) : Value) else f i) = g' i) (ha : n0 ≤ a) (hk : a ∈ ws ∨ h0.size ≤ a) {pc' : Nat} (hp : pc + 1 = pc') (k' : ∀ T' h', KPos wd s' p l e R s m args below meth c Z own n0 h0 ws T' h' cells slots → Wr h h' a J (.int (nar .char x)) → KVA Z h' a k .char N g' → KGo p e below K T' m pc' Ls st) : KGo p e below K T m pc Ls (.int x :: .int j :: .ref a :: st) := by
  subst hp
  obtain ⟨Lo, X, B, hZ, hown, eT, r1, r2, r3⟩ := P
  have V0 := V
  obtain ⟨cl, A, -, S, hN, H⟩ := V
  obtain ⟨q1, q2⟩ := k_idx hj (S.symm ▸ hJ)
  obtain ⟨T', h', X', e', W, stp⟩ := stC X C.1 hZ eT A q1 (g := mkF m pc Ls (.int x :: .int j :: .ref a :: st)) rfl rfl (hb C.cdE hd)
  have W' := W
  rw [q2] at W'
  exact (k' T' h' ⟨_, X', B.mono (Nat.le_of_eq W.size.symm), hZ, hown, e', W.size ▸ r1, Fr.snoc X' r2 ha, r3.wr W hk⟩ W' (V0.set W' hg')).step stp
theorem k_bastore {k : ClassId} {N J : Nat} {f g' : Nat → Value} {j : Int32} {x : Int32} (C : KCx tbl nm cod ml ret p meth c Z a0) (P : KPos wd s' p l e R s m args below meth c Z own n0 h0 ws T h cells slots) (V : KVA Z h a k .byte N f) (hd : decode cod pc = .ok (.bastore, 1)) (hj : j.toInt = (J : Int)) (hJ : J < N) (hg' : ∀ i, i < N → (if i = J then (.int (nar .byte x) : Value) else f i) = g' i) (ha : n0 ≤ a) (hk : a ∈ ws ∨ h0.size ≤ a) {pc' : Nat} (hp : pc + 1 = pc') (k' : ∀ T' h', KPos wd s' p l e R s m args below meth c Z own n0 h0 ws T' h' cells slots → Wr h h' a J (.int (nar .byte x)) → KVA Z h' a k .byte N g' → KGo p e below K T' m pc' Ls st) : KGo p e below K T m pc Ls (.int x :: .int j :: .ref a :: st) := by
  subst hp
  obtain ⟨Lo, X, B, hZ, hown, eT, r1, r2, r3⟩ := P
  have V0 := V
  obtain ⟨cl, A, -, S, hN, H⟩ := V
  obtain ⟨q1, q2⟩ := k_idx hj (S.symm ▸ hJ)
  obtain ⟨T', h', X', e', W, stp⟩ := stB X C.1 hZ eT A q1 (g := mkF m pc Ls (.int x :: .int j :: .ref a :: st)) rfl rfl (hb C.cdE hd)
  have W' := W
  rw [q2] at W'
  exact (k' T' h' ⟨_, X', B.mono (Nat.le_of_eq W.size.symm), hZ, hown, e', W.size ▸ r1, Fr.snoc X' r2 ha, r3.wr W hk⟩ W' (V0.set W' hg')).step stp
theorem k_dastore {k : ClassId} {N J : Nat} {f g' : Nat → Value} {j : Int32} {x : UInt64} (C : KCx tbl nm cod ml ret p meth c Z a0) (P : KPos wd s' p l e R s m args below meth c Z own n0 h0 ws T h cells slots) (V : KVA Z h a k .double N f) (hd : decode cod pc = .ok (.dastore, 1)) (hj : j.toInt = (J : Int)) (hJ : J < N) (hg' : ∀ i, i < N → (if i = J then (.double x : Value) else f i) = g' i) (ha : n0 ≤ a) (hk : a ∈ ws ∨ h0.size ≤ a) {pc' : Nat} (hp : pc + 1 = pc') (k' : ∀ T' h', KPos wd s' p l e R s m args below meth c Z own n0 h0 ws T' h' cells slots → Wr h h' a J (.double x) → KVA Z h' a k .double N g' → KGo p e below K T' m pc' Ls st) : KGo p e below K T m pc Ls (.double x :: .int j :: .ref a :: st) := by
  subst hp
  obtain ⟨Lo, X, B, hZ, hown, eT, r1, r2, r3⟩ := P
  have V0 := V
  obtain ⟨cl, A, -, S, hN, H⟩ := V
  obtain ⟨q1, q2⟩ := k_idx hj (S.symm ▸ hJ)
  obtain ⟨T', h', X', e', W, stp⟩ := stD X C.1 hZ eT A q1 (g := mkF m pc Ls (.double x :: .int j :: .ref a :: st)) rfl rfl (hb C.cdE hd)
  have W' := W
  rw [q2] at W'
  exact (k' T' h' ⟨_, X', B.mono (Nat.le_of_eq W.size.symm), hZ, hown, e', W.size ▸ r1, Fr.snoc X' r2 ha, r3.wr W hk⟩ W' (V0.set W' hg')).step stp
theorem k_aastore {k : ClassId} {ty : FieldType} {N J : Nat} {f g' : Nat → Value} {j : Int32} {x : Value} (C : KCx tbl nm cod ml ret p meth c Z a0) (P : KPos wd s' p l e R s m args below meth c Z own n0 h0 ws T h cells slots) (V : KVA Z h a k ty N f) (hty : ty.isReference = true) (S0 : Sto Z h a x) (hd : decode cod pc = .ok (.aastore, 1)) (hj : j.toInt = (J : Int)) (hJ : J < N) (hg' : ∀ i, i < N → (if i = J then x else f i) = g' i) (ha : n0 ≤ a) (hk : a ∈ ws ∨ h0.size ≤ a) {pc' : Nat} (hp : pc + 1 = pc') (k' : ∀ T' h', KPos wd s' p l e R s m args below meth c Z own n0 h0 ws T' h' cells slots → Wr h h' a J x → KVA Z h' a k ty N g' → KGo p e below K T' m pc' Ls st) : KGo p e below K T m pc Ls (x :: .int j :: .ref a :: st) := by
  subst hp
  obtain ⟨Lo, X, B, hZ, hown, eT, r1, r2, r3⟩ := P
  have V0 := V
  obtain ⟨cl, A, -, S, hN, H⟩ := V
  obtain ⟨q1, q2⟩ := k_idx hj (S.symm ▸ hJ)
  obtain ⟨T', h', X', e', W, stp⟩ := stR X C.1 hZ eT A q1 hty S0 (g := mkF m pc Ls (x :: .int j :: .ref a :: st)) rfl rfl (hb C.cdE hd)
  have W' := W
  rw [q2] at W'
  exact (k' T' h' ⟨_, X', B.mono (Nat.le_of_eq W.size.symm), hZ, hown, e', W.size ▸ r1, Fr.snoc X' r2 ha, r3.wr W hk⟩ W' (V0.set W' hg')).step stp
theorem KVA.sto {k : ClassId} {N : Nat} {f : Nat → Value} {Cn K1 : String} {ty : FieldType} (V : KVA Z h a k ty N f) (O : Ovr Z k Cn) (I : Ins Z h b Cn true) : Sto Z h a (.ref b) := by
  obtain ⟨cl, A, q, -⟩ := V; exact Sto.ofV A q O I
theorem KVA.stoA {k : ClassId} {N : Nat} {f : Nat → Value} {Cn : String} {ty t0 : FieldType} (V : KVA Z h a k t0 N f) (O : OvrA Z k ty Cn) (I : Ins Z h b Cn true) : Sto Z h a (.ref b) := by
  obtain ⟨cl, A, q, -⟩ := V; exact Sto.ofVA A q O I
theorem k_ldcI {index : Nat} {z : Int32} (C : KCx tbl nm cod ml ret p meth c Z a0) (P : KPos wd s' p l e R s m args below meth c Z own n0 h0 ws T h cells slots) (w : (Jvm.Cond.constant own index z).before a0 Z = true) (hd : decode cod pc = .ok (.ldc index, 2)) {pc' : Nat} (hp : pc + 2 = pc') (k' : KGo p e below K T m pc' Ls (.int z :: st)) : KGo p e below K T m pc Ls st := by
  subst hp
  obtain ⟨L, X, B, hZ, hown, eT, r1⟩ := P
  exact k'.step fun t q => X.ldcInt C.1 hown (mvT hZ w) (g := mkF m pc Ls st) rfl (hb C.cdE hd) t q
theorem k_ldc2L {index : Nat} {z : Int64} (C : KCx tbl nm cod ml ret p meth c Z a0) (P : KPos wd s' p l e R s m args below meth c Z own n0 h0 ws T h cells slots) (w : (Jvm.Cond.constantLong own index z).before a0 Z = true) (hd : decode cod pc = .ok (.ldc2_w index, 3)) {pc' : Nat} (hp : pc + 3 = pc') (k' : KGo p e below K T m pc' Ls (.long z :: st)) : KGo p e below K T m pc Ls st := by
  subst hp
  obtain ⟨L, X, B, hZ, hown, eT, r1⟩ := P
  exact k'.step fun t q => X.ldc2Long C.1 hown (mvT hZ w) (g := mkF m pc Ls st) rfl (hb C.cdE hd) t q
theorem k_ldc2D {index : Nat} {z : UInt64} (C : KCx tbl nm cod ml ret p meth c Z a0) (P : KPos wd s' p l e R s m args below meth c Z own n0 h0 ws T h cells slots) (w : (Jvm.Cond.constantDouble own index z).before a0 Z = true) (hd : decode cod pc = .ok (.ldc2_w index, 3)) {pc' : Nat} (hp : pc + 3 = pc') (k' : KGo p e below K T m pc' Ls (.double z :: st)) : KGo p e below K T m pc Ls st := by
  subst hp
  obtain ⟨L, X, B, hZ, hown, eT, r1⟩ := P
  exact k'.step fun t q => X.ldc2DoubleC C.1 hown (mvT hZ w) (g := mkF m pc Ls st) rfl (hb C.cdE hd) t q
theorem k_castO {Kn : String} {index : Nat} (C : KCx tbl nm cod ml ret p meth c Z a0) (P : KPos wd s' p l e R s m args below meth c Z own n0 h0 ws T h cells slots) (w : (Jvm.Cond.classLink own index Kn).before a0 Z = true) (F : Ins Z h a Kn true) (hd : decode cod pc = .ok (.checkcast index, 3)) {pc' : Nat} (hp : pc + 3 = pc') (k' : ∀ T', KPos wd s' p l e R s m args below meth c Z own n0 h0 ws T' h cells slots → KGo p e below K T' m pc' Ls (.ref a :: st)) : KGo p e below K T m pc Ls (.ref a :: st) := by
  subst hp
  obtain ⟨L, X, B, hZ, hown, eT, r1⟩ := P
  obtain ⟨T', X', e', stp⟩ := castY X C.1 hZ hown w eT F (g := mkF m pc Ls (.ref a :: st)) rfl rfl (hb C.cdE hd)
  exact (k' T' ⟨L, X', B, hZ, hown, e', r1⟩).step stp
/-! ### calls -/
theorem k_initObj {index W : Nat} (C : KCx tbl nm cod ml ret p meth c Z a0) (P : KPos wd s' p l e R s m args below meth c Z own n0 h0 ws T h cells slots) (w1 : (Jvm.Cond.methodLink own index Lib.objectInit).before a0 Z = true) (w2 : (Jvm.Cond.instanceMethod Lib.objectInit).before a0 Z = true) (w3 : (Jvm.Cond.code Lib.objectInit ⟨#[0xb1]⟩ 1 none).before a0 Z = true)
    (hd : decode cod pc = .ok (.invokespecial index, 3)) (hsz : Ls.size = ml) (hf : 1 ≤ R.frames) (hW : (st.map fun v => v.category).sum ≤ W) (hl : W + 12 ≤ R.locals) {pc' : Nat} (hp : pc + 3 = pc') (k' : ∀ T', KPos wd s' p l e R s m args below meth c Z own n0 h0 ws T' h cells slots → KGo p e below K T' m pc' Ls st) : KGo p e below K T m pc Ls (.ref a :: st) := by
  subst hp
  obtain ⟨L, X, B, hZ, hown, eT, r1⟩ := P
  obtain ⟨T', X', e', stp⟩ := initO X C.1 hZ hown w1 w2 w3 eT (g := mkF m pc Ls (.ref a :: st)) rfl (hsz.trans C.mlE.symm) rfl (hb C.cdE hd) hf (by show 2 * 0 + _ ≤ _; rw [Nat.mul_zero, Nat.zero_add]; exact hW) hl
  exact (k' T' ⟨L, X', B, hZ, hown, e', r1⟩).step stp
theorem k_callN {y : MethodName} {index W maxL : Nat} {bytes : ByteArray} {rm : Room} {as : Array Value} {ws' : List Addr} {Q : Option Value → Heap → Prop} (C : KCx tbl nm cod ml ret p meth c Z a0) (P : KPos wd s' p l e R s m args below meth c Z own n0 h0 ws T h cells slots)
    (hy1 : y.name = "<init>") (w1 : (Jvm.Cond.methodLink own index y).before a0 Z = true) (w2 : (Jvm.Cond.instanceMethod y).before a0 Z = true) (w3 : (Jvm.Cond.code y bytes maxL none).before a0 Z = true) (w4 : (Jvm.Cond.initialized y.cls).before a0 Z = true) (hy : y.cls ≠ "java/lang/invoke/MethodHandle" ∧ y.cls ≠ "java/lang/invoke/VarHandle")
    (hM : KCt false l y bytes maxL none rm Z n0 h as ws' Q) (a : Addr) (argsL rest : List Value) (has : as = (.ref a :: argsL).toArray) (hlen : ∀ sig, parseMethodDescriptor y.desc = some sig → argsL.length = sig.parameters.length) (hst : st = argsL.reverse ++ .ref a :: rest) (hW : (rest.map fun v => v.category).sum ≤ W)
    (hd : decode cod pc = .ok (.invokespecial index, 3)) (hsz : Ls.size = ml) (hf : rm.frames + 1 ≤ R.frames) (hl : W + (maxL + 11) + rm.locals ≤ R.locals) {cells' slots' : Nat} (hc : cells + rm.cells = cells') (hs : slots + rm.slots = slots') (hc' : cells' ≤ R.cells) (hs' : slots' ≤ R.slots) (hws : ∀ x ∈ ws', x ∈ ws ∨ h0.size ≤ x) {pc' : Nat} (hp : pc + 3 = pc')
    (k' : ∀ T' h' v, KPos wd s' p l e R s m args below meth c Z own n0 h0 ws T' h' cells' slots' → Keep h h' ws' → Q v h' → KGo p e below K T' m pc' Ls (v.toList ++ rest)) : KGo p e below K T m pc Ls st := by
  subst hp hc hs has
  obtain ⟨L, X, B, hZ, hown, eT, r1, r2, r3⟩ := P
  obtain ⟨v, _, ⟨T', L', k1, n1⟩, -, X', ⟨Lc, ⟨q1, q2, q3⟩, l1, y1, z1⟩, stp⟩ := X.specialBack C.1 (y := y) hy1 hown (mvT hZ w1) (mvT hZ w2) (mvT hZ w3) hy (backOf (W := W) (Q := fun v h' L => Fr n0 L ∧ Keep h h' ws' ∧ Q v h') hM.plain hZ w3 w4 hf hl) (g := mkF m pc Ls st) rfl (hsz.trans C.mlE.symm) (Steps.refl _) (a := a) (argsL := argsL) (rest := rest) hlen hst (by show 2 * 0 + _ ≤ _; rw [Nat.mul_zero, Nat.zero_add]; exact hW) (hb C.cdE hd) (fun _ _ => ⟨rfl, eT, hc', hs'⟩)
  dsimp only [Pt.U, Pt.locs, Pt.cells, Pt.slots] at X' l1 y1 z1 stp q2 q3
  subst l1 y1 z1
  exact (k' T' T'.heap v ⟨_, X', B.mono q2.1, hZ, hown, rfl, Nat.le_trans r1 q2.1, Fr.app r2 q1, r3.trans q2 hws⟩ q2 q3).step fun t q => stp.trans q
theorem k_callV {y z : MethodName} {Cn : String} {index W maxL : Nat} {bytes : ByteArray} {rt : Option FieldType} {rm : Room} {as : Array Value} {ws' : List Addr} {Q : Option Value → Heap → Prop} (C : KCx tbl nm cod ml ret p meth c Z a0) (P : KPos wd s' p l e R s m args below meth c Z own n0 h0 ws T h cells slots)
    (w1 : (Jvm.Cond.methodLink own index y).before a0 Z = true) (wdc : (Jvm.Cond.declares y).before a0 Z = true) (nf : ∀ s' : State, Z.Warmed39 s'.vm → NotFace s' y) (wsel : (Jvm.Cond.selects Cn y z).before a0 Z = true) (w2 : (Jvm.Cond.instanceMethod z).before a0 Z = true) (w3 : (Jvm.Cond.code z bytes maxL rt).before a0 Z = true) (w4 : (Jvm.Cond.initialized z.cls).before a0 Z = true) (hy : y.cls ≠ "java/lang/invoke/MethodHandle" ∧ y.cls ≠ "java/lang/invoke/VarHandle")
    (hM : KCt false l z bytes maxL rt rm Z n0 h as ws' Q) (E : Exa Z h a Cn) (argsL rest : List Value) (has : as = (.ref a :: argsL).toArray) (hlen : ∀ sig, parseMethodDescriptor y.desc = some sig → argsL.length = sig.parameters.length) (hst : st = argsL.reverse ++ .ref a :: rest) (hW : (rest.map fun v => v.category).sum ≤ W)
    (hd : decode cod pc = .ok (.invokevirtual index, 3)) (hsz : Ls.size = ml) (hf : rm.frames + 1 ≤ R.frames) (hl : W + (maxL + 11) + rm.locals ≤ R.locals) {cells' slots' : Nat} (hc : cells + rm.cells = cells') (hs : slots + rm.slots = slots') (hc' : cells' ≤ R.cells) (hs' : slots' ≤ R.slots) (hws : ∀ x ∈ ws', x ∈ ws ∨ h0.size ≤ x) {pc' : Nat} (hp : pc + 3 = pc')
    (k' : ∀ T' h' v, KPos wd s' p l e R s m args below meth c Z own n0 h0 ws T' h' cells' slots' → Keep h h' ws' → Q v h' → KGo p e below K T' m pc' Ls (v.toList ++ rest)) : KGo p e below K T m pc Ls st := by
  subst hp hc hs has
  obtain ⟨L, X, B, hZ, hown, eT, r1, r2, r3⟩ := P
  obtain ⟨cq, kq, qa, qb, qc⟩ := isOf hZ eT E
  obtain ⟨v, _, ⟨T', L', k1, n1⟩, -, X', ⟨Lc, ⟨q1, q2, q3⟩, l1, y1, z1⟩, stp⟩ := X.virtualBack C.1 (y := y) (z := z) hown (mvT hZ w1) (mvT hZ wdc) (nf s' hZ) (mvT hZ wsel) (mvT hZ w2) hy (backOf (W := W) (Q := fun v h' L => Fr n0 L ∧ Keep h h' ws' ∧ Q v h') hM.plain hZ w3 w4 hf hl) qa qc (g := mkF m pc Ls st) rfl (hsz.trans C.mlE.symm) (Steps.refl _) (argsL := argsL) (rest := rest) hlen hst (by show 2 * 0 + _ ≤ _; rw [Nat.mul_zero, Nat.zero_add]; exact hW) (hb C.cdE hd) (fun _ _ => ⟨rfl, eT, hc', hs'⟩)
  dsimp only [Pt.U, Pt.locs, Pt.cells, Pt.slots] at X' l1 y1 z1 stp q2 q3
  subst l1 y1 z1
  exact (k' T' T'.heap v ⟨_, X', B.mono q2.1, hZ, hown, rfl, Nat.le_trans r1 q2.1, Fr.app r2 q1, r3.trans q2 hws⟩ q2 q3).step fun t q => stp.trans q
theorem k_callI {xi y : MethodName} {Cn : String} {index count W maxL : Nat} {bytes : ByteArray} {rt : Option FieldType} {rm : Room} {as : Array Value} {ws' : List Addr} {Q : Option Value → Heap → Prop} (C : KCx tbl nm cod ml ret p meth c Z a0) (P : KPos wd s' p l e R s m args below meth c Z own n0 h0 ws T h cells slots)
    (w1 : (Jvm.Cond.methodLink own index xi).before a0 Z = true) (wdc : (Jvm.Cond.declares xi).before a0 Z = true) (wf : (Jvm.Cond.interfaceMethod xi.cls xi.cls xi.name xi.desc).before a0 Z = true) (wsel : (Jvm.Cond.selects Cn xi y).before a0 Z = true) (w2 : (Jvm.Cond.instanceMethod y).before a0 Z = true) (wp : (Jvm.Cond.publicMethod y).before a0 Z = true) (wu : (Jvm.Cond.unhidden Cn xi.name xi.desc).before a0 Z = true) (wc : (Jvm.Cond.castable Cn xi.cls).before a0 Z = true)
    (w3 : (Jvm.Cond.code y bytes maxL rt).before a0 Z = true) (w4 : (Jvm.Cond.initialized y.cls).before a0 Z = true) (hy : xi.cls ≠ "java/lang/invoke/MethodHandle" ∧ xi.cls ≠ "java/lang/invoke/VarHandle")
    (hM : KCt false l y bytes maxL rt rm Z n0 h as ws' Q) (E : Exa Z h a Cn) (argsL rest : List Value) (has : as = (.ref a :: argsL).toArray) (hlen : ∀ sig, parseMethodDescriptor xi.desc = some sig → argsL.length = sig.parameters.length) (hst : st = argsL.reverse ++ .ref a :: rest) (hW : (rest.map fun v => v.category).sum ≤ W)
    (hd : decode cod pc = .ok (.invokeinterface index count, 5)) (hsz : Ls.size = ml) (hf : rm.frames + 1 ≤ R.frames) (hl : W + (maxL + 11) + rm.locals ≤ R.locals) {cells' slots' : Nat} (hc : cells + rm.cells = cells') (hs : slots + rm.slots = slots') (hc' : cells' ≤ R.cells) (hs' : slots' ≤ R.slots) (hws : ∀ x ∈ ws', x ∈ ws ∨ h0.size ≤ x) {pc' : Nat} (hp : pc + 5 = pc')
    (k' : ∀ T' h' v, KPos wd s' p l e R s m args below meth c Z own n0 h0 ws T' h' cells' slots' → Keep h h' ws' → Q v h' → KGo p e below K T' m pc' Ls (v.toList ++ rest)) : KGo p e below K T m pc Ls st := by
  subst hp hc hs has
  obtain ⟨L, X, B, hZ, hown, eT, r1, r2, r3⟩ := P
  obtain ⟨cq, kq, qa, qb, qc⟩ := isOf hZ eT E
  obtain ⟨v, _, ⟨T', L', k1, n1⟩, -, X', ⟨Lc, ⟨q1, q2, q3⟩, l1, y1, z1⟩, stp⟩ := X.interfaceBack C.1 (xi := xi) (y := y) hown (mvT hZ w1) (mvT hZ wdc) (mvT hZ wf (by simp [Cond.onTables, Cond.keepsFace, Cond.faceAtom, hy.1, hy.2])) (mvT hZ wsel) (mvT hZ w2) (mvT hZ wp) (mvT hZ wu) (mvT hZ wc) hy (backOf (W := W) (Q := fun v h' L => Fr n0 L ∧ Keep h h' ws' ∧ Q v h') hM.plain hZ w3 w4 hf hl) qa qb qc (g := mkF m pc Ls st) rfl (hsz.trans C.mlE.symm) (Steps.refl _) (argsL := argsL) (rest := rest) hlen hst (by show 2 * 0 + _ ≤ _; rw [Nat.mul_zero, Nat.zero_add]; exact hW) (hb C.cdE hd) (fun _ _ => ⟨rfl, eT, hc', hs'⟩)
  dsimp only [Pt.U, Pt.locs, Pt.cells, Pt.slots] at X' l1 y1 z1 stp q2 q3
  subst l1 y1 z1
  exact (k' T' T'.heap v ⟨_, X', B.mono q2.1, hZ, hown, rfl, Nat.le_trans r1 q2.1, Fr.app r2 q1, r3.trans q2 hws⟩ q2 q3).step fun t q => stp.trans q
theorem k_callP {y : MethodName} {Cn : String} {index W maxL : Nat} {bytes : ByteArray} {rt : Option FieldType} {rm : Room} {as : Array Value} {ws' : List Addr} {Q : Option Value → Heap → Prop} (C : KCx tbl nm cod ml ret p meth c Z a0) (P : KPos wd s' p l e R s m args below meth c Z own n0 h0 ws T h cells slots)
    (w1 : (Jvm.Cond.methodLink own index y).before a0 Z = true) (w2 : (Jvm.Cond.instanceMethod y).before a0 Z = true) (wsel : (Jvm.Cond.selects y.cls y y).before a0 Z = true) (wp : (Jvm.Cond.privateMethod y).before a0 Z = true) (w3 : (Jvm.Cond.code y bytes maxL rt).before a0 Z = true) (w4 : (Jvm.Cond.initialized y.cls).before a0 Z = true) (hy : y.cls ≠ "java/lang/invoke/MethodHandle" ∧ y.cls ≠ "java/lang/invoke/VarHandle")
    (hM : KCt false l y bytes maxL rt rm Z n0 h as ws' Q) (E : Exa Z h a Cn) (argsL rest : List Value) (has : as = (.ref a :: argsL).toArray) (hlen : ∀ sig, parseMethodDescriptor y.desc = some sig → argsL.length = sig.parameters.length) (hst : st = argsL.reverse ++ .ref a :: rest) (hW : (rest.map fun v => v.category).sum ≤ W)
    (hd : decode cod pc = .ok (.invokevirtual index, 3)) (hsz : Ls.size = ml) (hf : rm.frames + 1 ≤ R.frames) (hl : W + (maxL + 11) + rm.locals ≤ R.locals) {cells' slots' : Nat} (hc : cells + rm.cells = cells') (hs : slots + rm.slots = slots') (hc' : cells' ≤ R.cells) (hs' : slots' ≤ R.slots) (hws : ∀ x ∈ ws', x ∈ ws ∨ h0.size ≤ x) {pc' : Nat} (hp : pc + 3 = pc')
    (k' : ∀ T' h' v, KPos wd s' p l e R s m args below meth c Z own n0 h0 ws T' h' cells' slots' → Keep h h' ws' → Q v h' → KGo p e below K T' m pc' Ls (v.toList ++ rest)) : KGo p e below K T m pc Ls st := by
  subst hp hc hs has
  obtain ⟨L, X, B, hZ, hown, eT, r1, r2, r3⟩ := P
  obtain ⟨cq, qa, qb⟩ := E.cell
  obtain ⟨v, _, ⟨T', L', k1, n1⟩, -, X', ⟨Lc, ⟨q1, q2, q3⟩, l1, y1, z1⟩, stp⟩ := X.privateBack C.1 (y := y) hown (mvT hZ w1) (mvT hZ w2) (mvT hZ wsel) (Cond.privateMethod_at (mvP hZ wp (args := #[]))) (mvT hZ w3) hy (backOf (W := W) (Q := fun v h' L => Fr n0 L ∧ Keep h h' ws' ∧ Q v h') hM.plain hZ w3 w4 hf hl) (g := mkF m pc Ls st) rfl (hsz.trans C.mlE.symm) (Steps.refl _) (a := a) (by rw [eT]; exact qa) qb (argsL := argsL) (rest := rest) hlen hst (by show 2 * 0 + _ ≤ _; rw [Nat.mul_zero, Nat.zero_add]; exact hW) (hb C.cdE hd) (fun _ _ => ⟨rfl, eT, hc', hs'⟩)
  dsimp only [Pt.U, Pt.locs, Pt.cells, Pt.slots] at X' l1 y1 z1 stp q2 q3
  subst l1 y1 z1
  exact (k' T' T'.heap v ⟨_, X', B.mono q2.1, hZ, hown, rfl, Nat.le_trans r1 q2.1, Fr.app r2 q1, r3.trans q2 hws⟩ q2 q3).step fun t q => stp.trans q
theorem k_callT {y : MethodName} {index W maxL : Nat} {bytes : ByteArray} {rt : Option FieldType} {rm : Room} {as : Array Value} {ws' : List Addr} {Q : Option Value → Heap → Prop} (C : KCx tbl nm cod ml ret p meth c Z a0) (P : KPos wd s' p l e R s m args below meth c Z own n0 h0 ws T h cells slots)
    (w1 : (Jvm.Cond.methodLink own index y).before a0 Z = true) (w2 : (Jvm.Cond.static y).before a0 Z = true) (w3 : (Jvm.Cond.code y bytes maxL rt).before a0 Z = true) (w4 : (Jvm.Cond.initialized y.cls).before a0 Z = true) (hy : y.cls ≠ "java/lang/invoke/MethodHandle" ∧ y.cls ≠ "java/lang/invoke/VarHandle")
    (hM : KCt false l y bytes maxL rt rm Z n0 h as ws' Q) (argsL rest : List Value) (has : as = argsL.toArray) (hlen : ∀ sig, parseMethodDescriptor y.desc = some sig → argsL.length = sig.parameters.length) (hst : st = argsL.reverse ++ rest) (hW : (rest.map fun v => v.category).sum ≤ W)
    (hd : decode cod pc = .ok (.invokestatic index, 3)) (hsz : Ls.size = ml) (hf : rm.frames + 1 ≤ R.frames) (hl : W + (maxL + 11) + rm.locals ≤ R.locals) {cells' slots' : Nat} (hc : cells + rm.cells = cells') (hs : slots + rm.slots = slots') (hc' : cells' ≤ R.cells) (hs' : slots' ≤ R.slots) (hws : ∀ x ∈ ws', x ∈ ws ∨ h0.size ≤ x) {pc' : Nat} (hp : pc + 3 = pc')
    (k' : ∀ T' h' v, KPos wd s' p l e R s m args below meth c Z own n0 h0 ws T' h' cells' slots' → Keep h h' ws' → Q v h' → KGo p e below K T' m pc' Ls (v.toList ++ rest)) : KGo p e below K T m pc Ls st := by
  subst hp hc hs has
  obtain ⟨L, X, B, hZ, hown, eT, r1, r2, r3⟩ := P
  obtain ⟨v, _, ⟨T', L', k1, n1⟩, -, X', ⟨Lc, ⟨q1, q2, q3⟩, l1, y1, z1⟩, stp⟩ := Jvm.LawKit.callS X C.1 (y := y) hown (mvT hZ w1) (mvT hZ w2) (mvT hZ w4) (mvT hZ w3) hy (backOf (W := W) (Q := fun v h' L => Fr n0 L ∧ Keep h h' ws' ∧ Q v h') hM.plain hZ w3 w4 hf hl) (g := mkF m pc Ls st) rfl (hsz.trans C.mlE.symm) (argsL := argsL) (rest := rest) hlen hst (by show 2 * 0 + _ ≤ _; rw [Nat.mul_zero, Nat.zero_add]; exact hW) (hb C.cdE hd) (fun _ _ => ⟨rfl, eT, hc', hs'⟩)
  dsimp only [Pt.U, Pt.locs, Pt.cells, Pt.slots] at X' l1 y1 z1 stp q2 q3
  subst l1 y1 z1
  exact (k' T' T'.heap v ⟨_, X', B.mono q2.1, hZ, hown, rfl, Nat.le_trans r1 q2.1, Fr.app r2 q1, r3.trans q2 hws⟩ q2 q3).step stp
theorem k_ldcS {index : Nat} {text : String} {n : Nat} (C : KCx tbl nm cod ml ret p meth c Z a0) (P : KPos true s' p l e R s m args below meth c Z own n0 h0 ws T h cells slots) (w : (Jvm.Cond.stringLink own index text).before a0 Z = true) (wS : ∀ a ∈ Bundle.stringAtoms, a.before a0 Z = true) (hd : decode cod pc = .ok (.ldc index, 2)) (hn : 4 * text.toList.length ≤ n) (hbig : n ≤ 536870912)
    {cells' slots' : Nat} (hc : cells + 2 = cells') (hs : slots + (n + 4) = slots') (hc' : cells' ≤ R.cells) (hs' : slots' ≤ R.slots) {pc' : Nat} (hp : pc + 2 = pc')
    (k' : ∀ s₂ T' h' a, KPos true s₂ p l e R s m args below meth c Z own n0 h0 ws T' h' cells' slots' → Ext h h' → KGo p e below K T' m pc' Ls (.ref a :: st)) : KGo p e below K T m pc Ls st := by
  subst hp hc hs
  obtain ⟨Lo, X, ⟨vm, k0, rfl, hS, hk0⟩, hZ, hown, eT, r1, r2, r3⟩ := P
  obtain ⟨a, T', h', k1, X', e', E, hS', hk1, hZ', hown', stp⟩ := ldcS X C.1 hZ hown w wS eT hS hk0 (g := mkF m pc Ls st) rfl (hb C.cdE hd) hn hbig hc' hs'
  exact (k' (s.setVm T'.vm) T' h' a ⟨Lo, X', ⟨T'.vm, k1, rfl, hS', hk1⟩, hZ', hown', e', Nat.le_trans r1 E.1, r2, r3.ext E⟩ E).step stp
theorem k_newpE {aty : ArrayType} {ad : String} {z : Int32} {N cap : Nat} (C : KCx tbl nm cod ml ret p meth c Z a0) (P : KPos wd s' p l e R s m args below meth c Z own n0 h0 ws T h cells slots) (w : (Jvm.Cond.arrayClass (newarray.typeOf aty)).before a0 Z = true) (had : "[" ++ (newarray.typeOf aty).toString = ad) (hd : decode cod pc = .ok (.newarray aty, 2)) (hN : z.toInt = (N : Int)) (hcap : N ≤ cap) (hb8 : cap * 8 ≤ 536870912)
    {cells' slots' : Nat} (hc : cells + 1 = cells') (hs : slots + cap = slots') (hc' : cells' ≤ R.cells) (hs' : slots' ≤ R.slots) {pc' : Nat} (hp : pc + 2 = pc')
    (k' : ∀ T' h' a k, KPos wd s' p l e R s m args below meth c Z own n0 h0 ws T' h' cells' slots' → h.size = a → n0 ≤ a → h0.size ≤ a → Ext h h' → KVA Z h' a k (newarray.typeOf aty) N (fun _ => defaultValue (newarray.typeOf aty)) → Exa Z h' a ad → KGo p e below K T' m pc' Ls (.ref a :: st)) : KGo p e below K T m pc Ls (.int z :: st) := by
  subst hp hc hs
  obtain ⟨Lo, X, B, hZ, hown, eT, r1, r2, r3⟩ := P
  have e0 : ¬ z < 0 := by rw [Int32.lt_iff_toInt_lt]; have : (0 : Int32).toInt = 0 := rfl; omega
  have e1 : z.toNatClampNeg ≤ cap := by simp only [Int32.toNatClampNeg]; omega
  obtain ⟨T', h', kA, X', e', E, A, Ex, stp⟩ := newPE X C.1 hZ w eT (g := mkF m pc Ls (.int z :: st)) rfl (hb C.cdE hd) rfl e0 e1 hb8 hc' hs' had
  exact (k' T' h' _ kA ⟨_, X', B.mono E.1, hZ, hown, e', Nat.le_trans r1 E.1, r2, r3.ext E⟩ rfl r1 r3.1 E (KVA.new A hN) Ex).step stp
/-- an array's clone: its own, like it -/
theorem k_clone {ad : String} {index W N cap : Nat} {k : ClassId} {ty : FieldType} {f : Nat → Value} (C : KCx tbl nm cod ml ret p meth c Z a0) (P : KPos wd s' p l e R s m args below meth c Z own n0 h0 ws T h cells slots)
    (w1 : (Cond.methodLink own index ⟨ad, "clone", "()Ljava/lang/Object;"⟩).before a0 Z = true) (w2 : (Cond.sameMethod ad "java/lang/Object" "clone" "()Ljava/lang/Object;").before a0 Z = true) (w3 : (Cond.native ⟨"java/lang/Object", "clone", "()Ljava/lang/Object;"⟩).before a0 Z = true)
    (w4 : (Cond.instanceMethod ⟨"java/lang/Object", "clone", "()Ljava/lang/Object;"⟩).before a0 Z = true) (w5 : (Cond.selects ad ⟨ad, "clone", "()Ljava/lang/Object;"⟩ ⟨"java/lang/Object", "clone", "()Ljava/lang/Object;"⟩).before a0 Z = true) (w6 : (Cond.castable ad "java/lang/Cloneable").before a0 Z = true)
    (V : KVA Z h a k ty N f) (G : ∀ i, i < N → fits ty (f i) = true) (Ex : Exa Z h a ad) (hd : decode cod pc = .ok (.invokevirtual index, 3)) (hsz : Ls.size = ml) (hW : (st.map fun v => v.category).sum ≤ W) (hf : 1 ≤ R.frames) (hl : W + 14 ≤ R.locals) (hcap : N ≤ cap)
    {cells' slots' : Nat} (hc : cells + 1 = cells') (hs : slots + cap = slots') (hc' : cells' ≤ R.cells) (hs' : slots' ≤ R.slots) {pc' : Nat} (hp : pc + 3 = pc')
    (k' : ∀ T' h' b, KPos wd s' p l e R s m args below meth c Z own n0 h0 ws T' h' cells' slots' → h.size = b → n0 ≤ b → h0.size ≤ b → Ext h h' → KVA Z h' b k ty N f → Exa Z h' b ad → KGo p e below K T' m pc' Ls (.ref b :: st)) : KGo p e below K T m pc Ls (.ref a :: st) := by
  subst hp hc hs
  obtain ⟨Lo, X, B, hZ, hown, eT, r1, r2, r3⟩ := P
  obtain ⟨cl, A, q1, q2, q3, q4⟩ := V
  have FC : FitC Z cl := fitC_of A fun i hi v hv => by rw [q4 i (q2 ▸ hi)] at hv; cases hv; exact G i (q2 ▸ hi)
  obtain ⟨T', h', X', e', E, A', E', stp⟩ := cloneA X C.1 hZ hown w1 w2 w3 w4 w5 w6 eT A Ex FC (g := mkF m pc Ls (.ref a :: st)) rfl (hsz.trans C.mlE.symm) rfl (hb C.cdE hd) hf (by show 2 * 0 + _ ≤ _; rw [Nat.mul_zero, Nat.zero_add]; exact hW) hl (by rw [q2]; exact hcap) hc' hs'
  exact (k' T' h' _ ⟨_, X', B.mono E.1, hZ, hown, e', Nat.le_trans r1 E.1, r2, r3.ext E⟩ rfl r1 r3.1 E ⟨_, A', q1, q2, q3, q4⟩ E').step stp
theorem KVA.arv {k : ClassId} {ty : FieldType} {N : Nat} {f : Nat → Value} {z : Int32} (V : KVA Z h a k ty N f) (hz : z.toInt = (N : Int)) (G : ∀ i, i < N → fits ty (f i) = true) (dv : Value) : Arv Z h a k ty z ((List.range N).map f) dv := by
  obtain ⟨cl, A, q1, q2, q3, q4⟩ := V
  have e : z.toNatClampNeg = N := by simp only [Int32.toNatClampNeg]; omega
  have gd : ∀ i, i < N → ((List.range N).map f).getD i dv = f i := fun i hi => by simp [List.getD_eq_getElem?_getD, hi]
  refine ⟨cl, A, q1, by rw [q2, e], by rw [Int32.lt_iff_toInt_lt]; have : (0 : Int32).toInt = 0 := rfl; omega, fun i hi => ?_, fun i hi => ?_⟩
  · rw [gd i (q2 ▸ hi)]; exact q4 i (q2 ▸ hi)
  · rw [gd i (q2 ▸ hi)]; exact G i (q2 ▸ hi)
theorem KVA.of_arv {k : ClassId} {ty : FieldType} {N : Nat} {f : Nat → Value} {z : Int32} {vs : List Value} {dv : Value} (V : Arv Z h a k ty z vs dv) (hz : z.toInt = (N : Int)) (q : ∀ i, i < N → vs.getD i dv = f i) : KVA Z h a k ty N f := by
  obtain ⟨cl, A, q1, q2, q3, q4, -⟩ := V
  have e : z.toNatClampNeg = N := by simp only [Int32.toNatClampNeg]; omega
  have := Int32.toInt_lt z
  exact ⟨cl, A, q1, by rw [q2, e], by omega, fun i hi => by rw [← q i hi]; exact q4 i (by rw [q2, e]; exact hi)⟩
/-- System.arraycopy between arrays of one primitive kind -/
theorem k_acopy {index W N N' S D n : Nat} {k k1 : ClassId} {ty : FieldType} {f f' g' : Nat → Value} {sp dp nn : Int32} (C : KCx tbl nm cod ml ret p meth c Z a0) (P : KPos wd s' p l e R s m args below meth c Z own n0 h0 ws T h cells slots)
    (w1 : (Cond.methodLink own index Jvm.Stand.acN).before a0 Z = true) (w2 : (Cond.native Jvm.Stand.acN).before a0 Z = true) (w3 : (Cond.static Jvm.Stand.acN).before a0 Z = true) (w4 : (Cond.initialized "java/lang/System").before a0 Z = true)
    (A : KVA Z h a k ty N f) (B : KVA Z h b k1 ty N' f') (hty : refKind ty = false) (GA : ∀ i, i < N → fits ty (f i) = true) (GB : ∀ i, i < N' → fits ty (f' i) = true) (hS : sp.toInt = (S : Int)) (hD : dp.toInt = (D : Int)) (hn : nn.toInt = (n : Int)) (h4 : S + n ≤ N) (h5 : D + n ≤ N')
    (hg : ∀ i, i < N' → (if D ≤ i ∧ i < D + n then f (S + (i - D)) else f' i) = g' i) (hd : decode cod pc = .ok (.invokestatic index, 3)) (hsz : Ls.size = ml) (hW : (st.map fun v => v.category).sum ≤ W) (hf : 1 ≤ R.frames) (hlo : W + (nativeFrameWords "java/lang/System" "arraycopy" 5 + 11) ≤ R.locals) (hge : n0 ≤ b) (hwb : b ∈ ws ∨ h0.size ≤ b) {pc' : Nat} (hp : pc + 3 = pc')
    (k' : ∀ T' h', KPos wd s' p l e R s m args below meth c Z own n0 h0 ws T' h' cells slots → Keep h h' [b] → KVA Z h' b k1 ty N' g' → KGo p e below K T' m pc' Ls st) : KGo p e below K T m pc Ls (.int nn :: .int dp :: .ref b :: .int sp :: .ref a :: st) := by
  subst hp
  obtain ⟨Lo, X, Bs, hZ, hown, eT, r1, r2, r3⟩ := P
  have nat : ∀ {x : Int32} {M : Nat}, x.toInt = (M : Int) → ¬ x < 0 ∧ x.toNatClampNeg = M := fun {x M} q => ⟨by rw [Int32.lt_iff_toInt_lt]; have : (0 : Int32).toInt = 0 := rfl; omega, by simp only [Int32.toNatClampNeg]; omega⟩
  have zN : ∀ {M : Nat}, M < 2 ^ 31 → (Int32.ofNat M).toInt = (M : Int) := fun {M} q => by rw [Int32.toInt_ofNat_of_lt q]
  have bN : N < 2 ^ 31 := by obtain ⟨_, _, _, _, q, _⟩ := A; exact q
  have bN' : N' < 2 ^ 31 := by obtain ⟨_, _, _, _, q, _⟩ := B; exact q
  have e1 := nat hS; have e2 := nat hD; have e3 := nat hn; have e4 := nat (zN bN); have e5 := nat (zN bN')
  obtain ⟨T', h', L', X', e', F', Kp, V', stp⟩ := cpA X C.1 hZ hown w1 w2 w3 w4 eT (A.arv (zN bN) GA .null) (B.arv (zN bN') GB .null) (Or.inl ⟨rfl, hty⟩) e1.1 e2.1 e3.1 (by rw [e1.2, e3.2, e4.2]; exact h4) (by rw [e2.2, e3.2, e5.2]; exact h5) rfl (by rw [e2.2, e3.2]; simpa using h5) r2 hge (g := mkF m pc Ls (.int nn :: .int dp :: .ref b :: .int sp :: .ref a :: st)) rfl (hsz.trans C.mlE.symm) rfl (hb C.cdE hd) hf (by show 2 * 0 + _ ≤ _; rw [Nat.mul_zero, Nat.zero_add]; exact hW) hlo
  refine (k' T' h' ⟨_, X', Bs.mono Kp.1, hZ, hown, e', Nat.le_trans r1 Kp.1, F', r3.trans Kp (by intro x hx; rw [List.mem_singleton] at hx; subst hx; exact hwb)⟩ Kp (KVA.of_arv V' (zN bN') fun i hi => ?_)).step stp
  rw [← hg i hi, e1.2, e2.2, e3.2]
  by_cases q : D ≤ i ∧ i < D + n
  · rw [if_pos q, List.getD_eq_getElem?_getD, List.append_assoc, List.getElem?_append_right (by simp; omega), List.getElem?_append_left (by simp; omega)]
    simp only [List.length_take, List.length_map, List.length_range, Nat.min_eq_left (show D ≤ N' by omega)]
    rw [List.getElem?_map, List.getElem?_range (by omega)]
    simp only [Option.map_some, Option.getD_some, List.getD_eq_getElem?_getD]
    rw [List.getElem?_map, List.getElem?_range (by omega)]; rfl
  · rw [if_neg q, List.getD_eq_getElem?_getD, List.append_assoc]
    by_cases u : i < D
    · rw [List.getElem?_append_left (by simp; omega), List.getElem?_take_of_lt u, List.getElem?_map, List.getElem?_range hi]; rfl
    · rw [List.getElem?_append_right (by simp; omega), List.getElem?_append_right (by simp; omega)]
      simp only [List.length_take, List.length_map, List.length_range, Nat.min_eq_left (show D ≤ N' by omega), List.getElem?_drop]
      rw [show D + n + (i - D - n) = i by omega, List.getElem?_map, List.getElem?_range hi]; rfl
theorem k_selP {y : MethodName} {kk : Nat} (wi : (Jvm.Cond.instantiable y.cls kk).before a0 Z = true) (wp : (Jvm.Cond.privateMethod y).before a0 Z = true) (w2 : (Jvm.Cond.instanceMethod y).before a0 Z = true) (hy : y.cls ≠ "java/lang/invoke/MethodHandle" ∧ y.cls ≠ "java/lang/invoke/VarHandle") : (Jvm.Cond.selects y.cls y y).before a0 Z = true := by
  obtain ⟨c, k, h1, h2, -, h3, -⟩ := Cond.instantiable_spec wi
  exact selects_self_of_private h1 h2 (by simp at h3; exact h3.1) (Cond.privateMethod_at wp) w2 hy
theorem KCt.wide {y : MethodName} {rm : Room} {as : Array Value} {Q : Option Value → Heap → Prop} {ws' : List Addr} (k : KCt wd l y cod ml ret rm Z n0 h0 as ws Q) (hs : ∀ x ∈ ws, x ∈ ws') : KCt wd l y cod ml ret rm Z n0 h0 as ws' Q := by
  intro wsc p e h1 h2 h3 s m args below h4 h5 h6 h7
  obtain ⟨n, o, g1, g2, g3, v, L, g4, ⟨g5, g6, g7⟩, g8⟩ := k wsc p e h1 h2 h3 s m args below h4 h5 h6 h7
  exact ⟨n, o, g1, g2, g3, v, L, g4, ⟨g5, ⟨g6.1, fun x c q r => g6.2.1 x c q fun u => r (hs x u), g6.2.2⟩, g7⟩, g8⟩
theorem KVA.neT {k k1 : ClassId} {ty ty1 : FieldType} {N N1 : Nat} {f f1 : Nat → Value} (F : KVA Z h a k ty N f) (G : KVA Z h b k1 ty1 N1 f1) (hne : ty ≠ ty1) : a ≠ b := fun e => by
  subst e
  obtain ⟨c, A, -⟩ := F; obtain ⟨c1, A1, -⟩ := G
  cases A.1.symm.trans A1.1
  obtain ⟨-, k, hk, comp, hkind⟩ := A.2.1
  obtain ⟨-, k', hk', comp', hkind'⟩ := A1.2.1
  cases hk.symm.trans hk'
  rw [hkind] at hkind'; cases hkind'; exact hne rfl
/-- the ways from here to one place, made one (the heap unturned) -/
theorem k_join {pc' : Nat} {Ls' : Array Slot} {st' : List Value} (P : KPos wd s' p l e R s m args below meth c Z own n0 h0 ws T h cells slots)
    (f : (∀ T', KPos wd s' p l e R s m args below meth c Z own n0 h0 ws T' h cells slots → KGo p e below K T' m pc' Ls' st') → KGo p e below K T m pc Ls st)
    (k' : ∀ T', KPos wd s' p l e R s m args below meth c Z own n0 h0 ws T' h cells slots → KGo p e below K T' m pc' Ls' st') : KGo p e below K T m pc Ls st := f k'
theorem k_exaNs {Cn : String} (E : Exa Z h a Cn) : ∀ cell : Cell, h[a]? = some cell → cell.vm.isStatics = false := fun cell q => by
  obtain ⟨c', h1, h2⟩ := E.cell
  cases q.symm.trans h1
  cases e : cell.vm <;> first | rfl | exact absurd e (h2 _)
theorem KOb.ns {Cn : String} {lay : List (String × String × String)} {vs : List Value} (F : KOb Z h a Cn lay vs) : ∀ cell : Cell, h[a]? = some cell → cell.vm.isStatics = false := k_exaNs F.exa
theorem KVA.ns {k : ClassId} {ty : FieldType} {N : Nat} {f : Nat → Value} (F : KVA Z h a k ty N f) : ∀ cell : Cell, h[a]? = some cell → cell.vm.isStatics = false := fun cell q => by
  obtain ⟨c', A, -⟩ := F
  cases q.symm.trans A.1
  have h2 := A.2.1.1
  cases e : cell.vm <;> first | rfl | exact absurd e (h2 _)
theorem k_ns0 : ∀ x ∈ ([] : List Addr), ∀ cell : Cell, h[x]? = some cell → cell.vm.isStatics = false := fun _ q => nomatch q
theorem k_nsS {l' : List Addr} (q : ∀ cell : Cell, h[a]? = some cell → cell.vm.isStatics = false) (r : ∀ x ∈ l', ∀ cell : Cell, h[x]? = some cell → cell.vm.isStatics = false) : ∀ x ∈ a :: l', ∀ cell : Cell, h[x]? = some cell → cell.vm.isStatics = false := fun x hx => by
  rcases List.mem_cons.mp hx with rfl | u
  · exact q
  · exact r x u
theorem k_staKeep {Cn n d : String} {v : Value} {ws' : List Addr} (F : Sta Z h Cn n d v) (K' : Keep h h' ws') (q : ∀ x ∈ ws', ∀ cell : Cell, h[x]? = some cell → cell.vm.isStatics = false) : Sta Z h' Cn n d v := by
  obtain ⟨cf, i, k, f, st, cell, h1, h2, h3, h4, h5, h6, h7⟩ := F
  exact ⟨cf, i, k, f, st, cell, h1, h2, h3, h4, K'.2.1 st cell h5 (fun u => by have := q st u cell h5; rw [this] at h6; cases h6), h6, h7⟩
/-! ### String constants whose text is known (library RW14: CHv, CHr, Safe) -/
def KEndH (EL : List (String × Nat)) (Z s : State) (n0 : Nat) (h0 : Heap) (ws : List Addr) (Q : Option Value → Heap → Prop) (kc ks : Nat) (s₂ : State) (o : Outcome) : Prop :=
  ∃ v L, o = .returned v ∧ (Fr n0 L ∧ Keep h0 s₂.heap ws ∧ Q v s₂.heap) ∧ CHr Z EL s.vm h0 s₂.vm s₂.heap ∧ ReturnedEndW s o s₂ L kc ks
/-- a body's contract that keeps the constants of EL; sf: places that are no constant's at its start -/
def KCh (EL : List (String × Nat)) (l : Launch) (y : MethodName) (cod : ByteArray) (ml : Nat) (ret : Option FieldType) (rm : Room) (Z : State) (n0 : Nat) (h0 : Heap) (as : Array Value) (sf ws : List Addr) (Q : Option Value → Heap → Prop) : Prop :=
  ∀ wsc : List Jvm.Cond, MetFree l y (head1 (Jvm.Cond.code y cod ml ret :: wsc) rm) (fun a U => a = as ∧ Z.Warmed39 U.vm ∧ U.heap = h0 ∧ CHv Z EL U.vm h0 ∧ ∀ x ∈ sf, Safe Z EL U.vm h0 x) (fun _ _ _ _ _ => True)
    (fun _ U o U' => ∃ v L, o = .returned v ∧ (Fr n0 L ∧ Keep h0 U'.heap ws ∧ Q v U'.heap) ∧ CHr Z EL U.vm U.heap U'.vm U'.heap ∧ ReturnedEndW U o U' L rm.cells rm.slots)
theorem k_enterH {EL : List (String × Nat)} {y : MethodName} {rm : Room} {as : Array Value} {sf : List Addr} {Q : Option Value → Heap → Prop} (hp : plainFor y = true) (hw : ∀ d ∈ tbl, d.before a0 Z = true) (hn : n0 ≤ h0.size) (hef : ∀ m, entryFrame m as ml = mkF m 0 Ls [])
    (body : ∀ p e s m below meth c T, KCx tbl y.name cod ml ret p meth c Z a0 → KPos true s p l e rm s m as below meth c Z y.cls n0 h0 ws T h0 0 0 → CHr Z EL s.vm h0 s.vm h0 → (∀ x ∈ sf, Safe Z EL s.vm h0 x) → KGo p e below (KEndH EL Z s n0 h0 ws Q rm.cells rm.slots) T m 0 Ls []) : KCh EL l y cod ml ret rm Z n0 h0 as sf ws Q := by
  intro wsc
  refine MetFree.of_bodySF hp hisR ?_
  intro p e s m args below meth c s₁ Bd hml0 hP hK
  obtain ⟨rfl, hZ, hh, hC, hSf⟩ := hP
  have B : KBase true s s h0.size := ⟨s.vm, 0, rfl, State.WarmedH.since (State.WarmedH.refl s) 0, Nat.zero_le _⟩
  have g := body p e s m below meth c s₁ ⟨Bd.exec, hw, Bd.bytes, hml0, Bd.returns, (name_of_methodNamed Bd.named Bd.method).1, Bd.notSynchronized⟩ ⟨[], Stand.of_body Bd, B, hZ, findClass_of_methodNamed Bd.named, by rw [← hh, Bd.state]; rfl, hn, Fr.nil _, Keep.refl _ _⟩ (CHr.refl hC) hSf
  obtain ⟨s₂, o, g1, g2, g3, v, L, g4, g5, g6, g7⟩ := g
  exact ⟨s₂, o, castTop (hef m) g1, g2, g3, v, L, g4, g5, by rw [hh]; exact g6, g7⟩
theorem k_retValH {EL : List (String × Nat)} {Q : Option Value → Heap → Prop} {kc ks : Nat} {v : Option Value} (C : KCx tbl nm cod ml ret p meth c Z a0) (P : KPos true s' p l e R s m args below meth c Z own n0 h0 ws T h cells slots) (hEL : EW Z a0 EL) (HR : CHr Z EL s.vm h0 s'.vm h) (hv : ret = none → v = none) (hc : cells ≤ kc) (hs : slots ≤ ks) (hQ : Q v h)
    (q : ∀ fs, (∀ (f : JFrame) (acts : List Action), f.method = m → f.locked = none → f.entered = [] → (doReturn e (T.setTop f) acts v).1 = T.setFrames fs) → Steps p.tables e below (T.setTop (mkF m pc Ls st)) (T.setFrames fs)) : KGo p e below (KEndH EL Z s n0 h0 ws Q kc ks) T m pc Ls st := by
  obtain ⟨L, X, B, hZ, hown, eT, hn, hF, hk⟩ := P
  have hl : meth.locks = false := C.lk
  have X2 := X.more hc hs
  obtain ⟨vm, k, rfl, hS, hk0⟩ := B
  obtain ⟨fs, hr, hrun, hended, hW⟩ := X2.leaveW hS (by rw [eT]; exact hk0) (v := v) (fun q => hv (C.rtE.symm.trans q)) hl
  have A := HR.trans (CHv.at X hZ hEL HR.1)
  exact ⟨_, _, q fs hr, hrun, hended, v, L, rfl, ⟨hF, by show Keep h0 T.heap ws; rw [eT]; exact hk, by show Q v T.heap; rw [eT]; exact hQ⟩, by show CHr Z EL s.vm h0 T.vm T.heap; rw [eT]; exact A, hW⟩
theorem k_retHV {EL : List (String × Nat)} {Q : Option Value → Heap → Prop} {kc ks : Nat} (C : KCx tbl nm cod ml none p meth c Z a0) (P : KPos true s' p l e R s m args below meth c Z own n0 h0 ws T h cells slots) (hEL : EW Z a0 EL) (HR : CHr Z EL s.vm h0 s'.vm h) (hd : decode cod pc = .ok (.return_, 1)) (hc : cells ≤ kc) (hs : slots ≤ ks) (hQ : Q none h) : KGo p e below (KEndH EL Z s n0 h0 ws Q kc ks) T m pc Ls [] :=
  k_retValH C P hEL HR (fun _ => rfl) hc hs hQ fun fs hr => by obtain ⟨L, X, -⟩ := P; exact X.returnOut C.1 C.rtE (hb C.cdE hd) hr
theorem k_retHZ {EL : List (String × Nat)} {Q : Option Value → Heap → Prop} {kc ks : Nat} {z z' : Int32} {t : FieldType} (C : KCx tbl nm cod ml (some t) p meth c Z a0) (P : KPos true s' p l e R s m args below meth c Z own n0 h0 ws T h cells slots) (hEL : EW Z a0 EL) (HR : CHr Z EL s.vm h0 s'.vm h) (ht : t = .boolean ∨ t = .byte ∨ t = .char ∨ t = .short) (hd : decode cod pc = .ok (.ireturn, 1)) (hz : nar t z = z') (hc : cells ≤ kc) (hs : slots ≤ ks) (hQ : Q (some (.int z')) h) : KGo p e below (KEndH EL Z s n0 h0 ws Q kc ks) T m pc Ls (.int z :: st) :=
  k_retValH C P hEL HR (fun q => nomatch q) hc hs hQ fun fs hr => by
    subst hz
    obtain ⟨L, X, -⟩ := P
    exact retN X C.1 C.rtE ht (hb C.cdE hd) hr
theorem k_retHA {EL : List (String × Nat)} {Q : Option Value → Heap → Prop} {kc ks : Nat} {v : Value} {t : FieldType} (C : KCx tbl nm cod ml (some t) p meth c Z a0) (P : KPos true s' p l e R s m args below meth c Z own n0 h0 ws T h cells slots) (hEL : EW Z a0 EL) (HR : CHr Z EL s.vm h0 s'.vm h) (hd : decode cod pc = .ok (.areturn, 1)) (ht : t.isReference = true) (hv : v.isRef = true) (hc : cells ≤ kc) (hs : slots ≤ ks) (hQ : Q (some v) h) : KGo p e below (KEndH EL Z s n0 h0 ws Q kc ks) T m pc Ls (v :: st) :=
  k_retValH C P hEL HR (fun q => nomatch q) hc hs hQ fun fs hr => by
    obtain ⟨L, X, -⟩ := P
    exact retOut X C.1 C.rtE (k_narrow_ref hv) (Or.inr (Or.inr (Or.inr (Or.inr ⟨rfl, ht, hv⟩)))) (hb C.cdE hd) hr
/-- ldc of a String constant of EL: what it is -/
theorem k_ldcH {EL : List (String × Nat)} {index n N : Nat} {text : String} {f : Nat → Value} (C : KCx tbl nm cod ml ret p meth c Z a0) (P : KPos true s' p l e R s m args below meth c Z own n0 h0 ws T h cells slots) (hEL : EW Z a0 EL) (hmem : (own, index) ∈ EL) (H : CHv Z EL s'.vm h) (w : (Jvm.Cond.stringLink own index text).before a0 Z = true) (wS : ∀ a ∈ Bundle.stringAtoms, a.before a0 Z = true) (hd : decode cod pc = .ok (.ldc index, 2))
    (ht : ∀ c ∈ text.toList, c.toNat < 256) (hN : text.toList.length = N) (hN31 : N < 2 ^ 31) (hf : ∀ j, j < N → (text.toList.map (fun c => Value.int (Jvm.Lit.byteI c.toNat.toUInt16))).getD j (.int 0) = f j) (hn : 4 * text.toList.length ≤ n) (hbig : n ≤ 536870912)
    {cells' slots' : Nat} (hc : cells + 2 = cells') (hs : slots + (n + 4) = slots') (hc' : cells' ≤ R.cells) (hs' : slots' ≤ R.slots) {pc' : Nat} (hp : pc + 2 = pc')
    (k' : ∀ s₂ T' h' a b k, KPos true s₂ p l e R s m args below meth c Z own n0 h0 ws T' h' cells' slots' → Ext h h' → Exa Z h' a "java/lang/String" → Fld Z h' a "java/lang/String" "coder" "B" (.int 0) → Fld Z h' a "java/lang/String" "value" "[B" (.ref b) → KVA Z h' b k .byte N f → CHr Z EL s'.vm h s₂.vm h' → (∀ x, Safe Z EL s₂.vm h' x → x ≠ a ∧ x ≠ b) → KGo p e below K T' m pc' Ls (.ref a :: st)) : KGo p e below K T m pc Ls st := by
  subst hp hc hs
  obtain ⟨Lo, X, ⟨vm, k0, rfl, hS, hk0⟩, hZ, hown, eT, r1, r2, r3⟩ := P
  have hz : (Int32.ofNat N).toInt = (N : Int) := Int32.toInt_ofNat_of_lt hN31
  obtain ⟨a, T', h', k1, b, k, X', e', E, hS', hk1, hZ', hown', x1, x2, x3, x4, -, -, hC, -, hne, stp⟩ := ldcCH X C.1 hZ hown w wS eT hS hk0 hEL hmem H (z := Int32.ofNat N) ⟨ht, rfl⟩ (by rw [Int32.lt_iff_toInt_lt, hz]; have : (0 : Int32).toInt = 0 := rfl; omega) (by simp only [Int32.toNatClampNeg, hz, List.length_map, hN]; omega) (g := mkF m pc Ls st) rfl (hb C.cdE hd) hn hbig hc' hs'
  exact (k' (s.setVm T'.vm) T' h' a b k ⟨Lo, X', ⟨T'.vm, k1, rfl, hS', hk1⟩, hZ', hown', e', Nat.le_trans r1 E.1, r2, r3.ext E⟩ E x1 x2 x3 (KVA.of_arv x4 hz hf) hC hne).step stp
/-- a held contract, for the library's calls -/
theorem k_backH {EL : List (String × Nat)} {y : MethodName} {bytes : ByteArray} {maxL : Nat} {rt : Option FieldType} {rm : Room} {len W : Nat} {as : Array Value} {sf ws' : List Addr} {Q : Option Value → Heap → Prop} {vm0 : Vm}
    (hM : KCh EL l y bytes maxL rt rm Z n0 h as sf ws' Q) (hZ : Z.Warmed39 vm0) (wc : (Jvm.Cond.code y bytes maxL rt).before a0 Z = true) (wz : (Jvm.Cond.initialized y.cls).before a0 Z = true) (hf : rm.frames + 1 ≤ R.frames) (hl : W + (maxL + 11) + rm.locals ≤ R.locals) (hEL : EW Z a0 EL) (H : CHv Z EL vm0 h) (hSf : ∀ x ∈ sf, x < h.size ∧ Safe Z EL vm0 h x) :
    BackS l R p e below (s.setVm vm0) args y len W (fun A a => a = as ∧ A.U.heap = h ∧ A.cells + rm.cells ≤ R.cells ∧ A.slots + rm.slots ≤ R.slots)
      (fun A _ v B => ∃ L, (Fr n0 L ∧ Keep h B.U.heap ws' ∧ Q v B.U.heap) ∧ B.locs = A.locs ++ L ∧ B.cells = A.cells + rm.cells ∧ B.slots = A.slots + rm.slots ∧ CHr Z EL vm0 h B.U.vm B.U.heap) :=
  BackS.of_freeW (bytes := bytes) (maxL := maxL) (ret := rt) (E := fun _ first o t L k n => k = rm.cells ∧ n = rm.slots ∧ (∃ v, o = .returned v ∧ (Fr n0 L ∧ Keep h t.heap ws' ∧ Q v t.heap)) ∧ CHr Z EL first.vm first.heap t.vm t.heap) (hM []) hf hl
    (fun m meth c A a Y hp => have hU : Z.Warmed39 A.U.vm := wtrans (s := s.setVm vm0) hZ Y.warmed
      ⟨by show (Jvm.Cond.and _ .tt).before a A.U = true; rw [Cond.before_and, mv hU wc]; rfl, mv hU wc, mv hU wz, hp.2.2.1, hp.2.2.2⟩)
    (fun m meth c A a g mk Y hp => ⟨hp.1, wtrans (s := s.setVm vm0) hZ Y.warmed, hp.2.1, (CHv.at Y hZ hEL H).1, fun x hx => (CHv.at Y hZ hEL H).safe (hSf x hx).1 (hSf x hx).2⟩) (fun _ _ _ _ _ _ _ _ _ => trivial)
    (fun _ _ _ _ ⟨v, L, h1, h2, h3, h4⟩ => ⟨L, _, _, h4, rfl, rfl, ⟨v, h1, h2⟩, h3⟩)
    (fun m meth c A a g mk v t L k n Y hp _ _ ⟨e1, e2, ⟨v', e3, e4⟩, e5⟩ => by
      cases e3; subst e1 e2
      refine ⟨L, e4, rfl, rfl, rfl, (CHv.at Y hZ hEL H).trans ?_⟩
      rw [← hp.2.1]; exact e5)
theorem k_callTH {EL : List (String × Nat)} {y : MethodName} {index W maxL : Nat} {bytes : ByteArray} {rt : Option FieldType} {rm : Room} {as : Array Value} {sf ws' : List Addr} {Q : Option Value → Heap → Prop} (C : KCx tbl nm cod ml ret p meth c Z a0) (P : KPos true s' p l e R s m args below meth c Z own n0 h0 ws T h cells slots)
    (w1 : (Jvm.Cond.methodLink own index y).before a0 Z = true) (w2 : (Jvm.Cond.static y).before a0 Z = true) (w3 : (Jvm.Cond.code y bytes maxL rt).before a0 Z = true) (w4 : (Jvm.Cond.initialized y.cls).before a0 Z = true) (hy : y.cls ≠ "java/lang/invoke/MethodHandle" ∧ y.cls ≠ "java/lang/invoke/VarHandle")
    (hM : KCh EL l y bytes maxL rt rm Z n0 h as sf ws' Q) (hEL : EW Z a0 EL) (H : CHv Z EL s'.vm h) (hSf : ∀ x ∈ sf, x < h.size ∧ Safe Z EL s'.vm h x) (argsL rest : List Value) (has : as = argsL.toArray) (hlen : ∀ sig, parseMethodDescriptor y.desc = some sig → argsL.length = sig.parameters.length) (hst : st = argsL.reverse ++ rest) (hW : (rest.map fun v => v.category).sum ≤ W)
    (hd : decode cod pc = .ok (.invokestatic index, 3)) (hsz : Ls.size = ml) (hf : rm.frames + 1 ≤ R.frames) (hl : W + (maxL + 11) + rm.locals ≤ R.locals) {cells' slots' : Nat} (hc : cells + rm.cells = cells') (hs : slots + rm.slots = slots') (hc' : cells' ≤ R.cells) (hs' : slots' ≤ R.slots) (hws : ∀ x ∈ ws', x ∈ ws ∨ h0.size ≤ x) {pc' : Nat} (hp : pc + 3 = pc')
    (k' : ∀ s₂ T' h' v, KPos true s₂ p l e R s m args below meth c Z own n0 h0 ws T' h' cells' slots' → Keep h h' ws' → CHr Z EL s'.vm h s₂.vm h' → Q v h' → KGo p e below K T' m pc' Ls (v.toList ++ rest)) : KGo p e below K T m pc Ls st := by
  subst hp hc hs has
  obtain ⟨L, X, ⟨vm, k0, rfl, hS, hk0⟩, hZ, hown, eT, r1, r2, r3⟩ := P
  obtain ⟨v, _, ⟨T', L', k1, n1⟩, -, X', hS', hg', ⟨Lc, ⟨q1, q2, q3⟩, l1, y1, z1, hC⟩, stp⟩ := callSS X C.1 (y := y) hown (mvT hZ w1) (mvT hZ w2) (mvT hZ w4) (mvT hZ w3) hy (k_backH (W := W) hM hZ w3 w4 hf hl hEL H hSf) (g := mkF m pc Ls st) rfl (hsz.trans C.mlE.symm) (argsL := argsL) (rest := rest) hlen hst (by show 2 * 0 + _ ≤ _; rw [Nat.mul_zero, Nat.zero_add]; exact hW) (hb C.cdE hd) (fun _ _ => ⟨rfl, eT, hc', hs'⟩)
  dsimp only [Pt.U, Pt.locs, Pt.cells, Pt.slots] at X' l1 y1 z1 stp q2 q3 hS' hg' hC
  subst l1 y1 z1
  have S2 : s.Since T'.vm T'.heap.size := hS.trans hS' (Nat.le_trans hk0 q2.1)
  exact (k' (s.setVm T'.vm) T' T'.heap v ⟨_, X', ⟨T'.vm, T'.heap.size, rfl, S2, Nat.le_refl _⟩, State.Warmed39.trans (t := s.setVm vm) hZ hS'.1, by rw [show (s.setVm T'.vm).vm = T'.vm from rfl, hS'.1.alike.findClass]; exact hown, rfl, Nat.le_trans r1 q2.1, Fr.app r2 q1, r3.trans q2 hws⟩ q2 hC q3).step fun t q => stp.trans q
theorem k_callVH {EL : List (String × Nat)} {y z : MethodName} {Cn : String} {index W maxL : Nat} {bytes : ByteArray} {rt : Option FieldType} {rm : Room} {as : Array Value} {sf ws' : List Addr} {Q : Option Value → Heap → Prop} (C : KCx tbl nm cod ml ret p meth c Z a0) (P : KPos true s' p l e R s m args below meth c Z own n0 h0 ws T h cells slots)
    (w1 : (Jvm.Cond.methodLink own index y).before a0 Z = true) (wdc : (Jvm.Cond.declares y).before a0 Z = true) (nf : ∀ s' : State, Z.Warmed39 s'.vm → NotFace s' y) (wsel : (Jvm.Cond.selects Cn y z).before a0 Z = true) (w2 : (Jvm.Cond.instanceMethod z).before a0 Z = true) (w3 : (Jvm.Cond.code z bytes maxL rt).before a0 Z = true) (w4 : (Jvm.Cond.initialized z.cls).before a0 Z = true) (hy : y.cls ≠ "java/lang/invoke/MethodHandle" ∧ y.cls ≠ "java/lang/invoke/VarHandle")
    (hM : KCh EL l z bytes maxL rt rm Z n0 h as sf ws' Q) (hEL : EW Z a0 EL) (H : CHv Z EL s'.vm h) (hSf : ∀ x ∈ sf, x < h.size ∧ Safe Z EL s'.vm h x) (E : Exa Z h a Cn) (argsL rest : List Value) (has : as = (.ref a :: argsL).toArray) (hlen : ∀ sig, parseMethodDescriptor y.desc = some sig → argsL.length = sig.parameters.length) (hst : st = argsL.reverse ++ .ref a :: rest) (hW : (rest.map fun v => v.category).sum ≤ W)
    (hd : decode cod pc = .ok (.invokevirtual index, 3)) (hsz : Ls.size = ml) (hf : rm.frames + 1 ≤ R.frames) (hl : W + (maxL + 11) + rm.locals ≤ R.locals) {cells' slots' : Nat} (hc : cells + rm.cells = cells') (hs : slots + rm.slots = slots') (hc' : cells' ≤ R.cells) (hs' : slots' ≤ R.slots) (hws : ∀ x ∈ ws', x ∈ ws ∨ h0.size ≤ x) {pc' : Nat} (hp : pc + 3 = pc')
    (k' : ∀ s₂ T' h' v, KPos true s₂ p l e R s m args below meth c Z own n0 h0 ws T' h' cells' slots' → Keep h h' ws' → CHr Z EL s'.vm h s₂.vm h' → Q v h' → KGo p e below K T' m pc' Ls (v.toList ++ rest)) : KGo p e below K T m pc Ls st := by
  subst hp hc hs has
  obtain ⟨L, X, ⟨vm, k0, rfl, hS, hk0⟩, hZ, hown, eT, r1, r2, r3⟩ := P
  obtain ⟨cq, kq, qa, qb, qc⟩ := isOf hZ eT E
  obtain ⟨v, _, ⟨T', L', k1, n1⟩, -, X', hS', hg', ⟨Lc, ⟨q1, q2, q3⟩, l1, y1, z1, hC⟩, stp⟩ := X.virtualBackS C.1 (y := y) (z := z) hown (mvT hZ w1) (mvT hZ wdc) (nf _ hZ) (mvT hZ wsel) (mvT hZ w2) hy (k_backH (W := W) hM hZ w3 w4 hf hl hEL H hSf) qa qc (g := mkF m pc Ls st) rfl (hsz.trans C.mlE.symm) (Steps.refl _) (argsL := argsL) (rest := rest) hlen hst (by show 2 * 0 + _ ≤ _; rw [Nat.mul_zero, Nat.zero_add]; exact hW) (hb C.cdE hd) (fun _ _ => ⟨rfl, eT, hc', hs'⟩)
  dsimp only [Pt.U, Pt.locs, Pt.cells, Pt.slots] at X' l1 y1 z1 stp q2 q3 hS' hg' hC
  subst l1 y1 z1
  have S2 : s.Since T'.vm T'.heap.size := hS.trans hS' (Nat.le_trans hk0 q2.1)
  exact (k' (s.setVm T'.vm) T' T'.heap v ⟨_, X', ⟨T'.vm, T'.heap.size, rfl, S2, Nat.le_refl _⟩, State.Warmed39.trans (t := s.setVm vm) hZ hS'.1, by rw [show (s.setVm T'.vm).vm = T'.vm from rfl, hS'.1.alike.findClass]; exact hown, rfl, Nat.le_trans r1 q2.1, Fr.app r2 q1, r3.trans q2 hws⟩ q2 hC q3).step fun t q => stp.trans q
theorem k_callNH {EL : List (String × Nat)} {y : MethodName} {index W maxL : Nat} {bytes : ByteArray} {rm : Room} {as : Array Value} {sf ws' : List Addr} {Q : Option Value → Heap → Prop} (C : KCx tbl nm cod ml ret p meth c Z a0) (P : KPos true s' p l e R s m args below meth c Z own n0 h0 ws T h cells slots)
    (hy1 : y.name = "<init>") (w1 : (Jvm.Cond.methodLink own index y).before a0 Z = true) (w2 : (Jvm.Cond.instanceMethod y).before a0 Z = true) (w3 : (Jvm.Cond.code y bytes maxL none).before a0 Z = true) (w4 : (Jvm.Cond.initialized y.cls).before a0 Z = true) (hy : y.cls ≠ "java/lang/invoke/MethodHandle" ∧ y.cls ≠ "java/lang/invoke/VarHandle")
    (hM : KCh EL l y bytes maxL none rm Z n0 h as sf ws' Q) (hEL : EW Z a0 EL) (H : CHv Z EL s'.vm h) (hSf : ∀ x ∈ sf, x < h.size ∧ Safe Z EL s'.vm h x) (a : Addr) (argsL rest : List Value) (has : as = (.ref a :: argsL).toArray) (hlen : ∀ sig, parseMethodDescriptor y.desc = some sig → argsL.length = sig.parameters.length) (hst : st = argsL.reverse ++ .ref a :: rest) (hW : (rest.map fun v => v.category).sum ≤ W)
    (hd : decode cod pc = .ok (.invokespecial index, 3)) (hsz : Ls.size = ml) (hf : rm.frames + 1 ≤ R.frames) (hl : W + (maxL + 11) + rm.locals ≤ R.locals) {cells' slots' : Nat} (hc : cells + rm.cells = cells') (hs : slots + rm.slots = slots') (hc' : cells' ≤ R.cells) (hs' : slots' ≤ R.slots) (hws : ∀ x ∈ ws', x ∈ ws ∨ h0.size ≤ x) {pc' : Nat} (hp : pc + 3 = pc')
    (k' : ∀ s₂ T' h' v, KPos true s₂ p l e R s m args below meth c Z own n0 h0 ws T' h' cells' slots' → Keep h h' ws' → CHr Z EL s'.vm h s₂.vm h' → Q v h' → KGo p e below K T' m pc' Ls (v.toList ++ rest)) : KGo p e below K T m pc Ls st := by
  subst hp hc hs has
  obtain ⟨L, X, ⟨vm, k0, rfl, hS, hk0⟩, hZ, hown, eT, r1, r2, r3⟩ := P
  obtain ⟨v, _, ⟨T', L', k1, n1⟩, -, X', hS', hg', ⟨Lc, ⟨q1, q2, q3⟩, l1, y1, z1, hC⟩, stp⟩ := X.specialBackS C.1 (y := y) hy1 hown (mvT hZ w1) (mvT hZ w2) (mvT hZ w3) hy (k_backH (W := W) hM hZ w3 w4 hf hl hEL H hSf) (g := mkF m pc Ls st) rfl (hsz.trans C.mlE.symm) (Steps.refl _) (a := a) (argsL := argsL) (rest := rest) hlen hst (by show 2 * 0 + _ ≤ _; rw [Nat.mul_zero, Nat.zero_add]; exact hW) (hb C.cdE hd) (fun _ _ => ⟨rfl, eT, hc', hs'⟩)
  dsimp only [Pt.U, Pt.locs, Pt.cells, Pt.slots] at X' l1 y1 z1 stp q2 q3 hS' hg' hC
  subst l1 y1 z1
  have S2 : s.Since T'.vm T'.heap.size := hS.trans hS' (Nat.le_trans hk0 q2.1)
  exact (k' (s.setVm T'.vm) T' T'.heap v ⟨_, X', ⟨T'.vm, T'.heap.size, rfl, S2, Nat.le_refl _⟩, State.Warmed39.trans (t := s.setVm vm) hZ hS'.1, by rw [show (s.setVm T'.vm).vm = T'.vm from rfl, hS'.1.alike.findClass]; exact hown, rfl, Nat.le_trans r1 q2.1, Fr.app r2 q1, r3.trans q2 hws⟩ q2 hC q3).step fun t q => stp.trans q
/-- the tables' kinship with the start's, for Safe.exa and Safe.arr -/
theorem KPos.alike (P : KPos wd s' p l e R s m args below meth c Z own n0 h0 ws T h cells slots) : Z.vm.Alike s'.vm := by obtain ⟨_, _, _, hZ, -⟩ := P; exact hZ.alike
theorem KVA.safe {EL : List (String × Nat)} {vm : Vm} {k : ClassId} {ty : FieldType} {N : Nat} {f : Nat → Value} (V : KVA Z h a k ty N f) (hal : Z.vm.Alike vm) (ht : ty ≠ .byte) : Safe Z EL vm h a := by obtain ⟨c, A, -⟩ := V; exact Safe.arr hal A ht
theorem k_instY {Kn : String} {index : Nat} (C : KCx tbl nm cod ml ret p meth c Z a0) (P : KPos wd s' p l e R s m args below meth c Z own n0 h0 ws T h cells slots) (w : (Jvm.Cond.classLink own index Kn).before a0 Z = true) (F : Ins Z h a Kn true) (hd : decode cod pc = .ok (.instanceof index, 3)) {pc' : Nat} (hp : pc + 3 = pc') (k' : ∀ T', KPos wd s' p l e R s m args below meth c Z own n0 h0 ws T' h cells slots → KGo p e below K T' m pc' Ls (.int 1 :: st)) : KGo p e below K T m pc Ls (.ref a :: st) := by
  subst hp
  obtain ⟨L, X, B, hZ, hown, eT, r1⟩ := P
  obtain ⟨T', X', e', stp⟩ := instY X C.1 hZ hown w eT F (g := mkF m pc Ls (.ref a :: st)) rfl rfl (hb C.cdE hd)
  exact (k' T' ⟨L, X', B, hZ, hown, e', r1⟩).step stp
theorem k_instNull {index : Nat} (C : KCx tbl nm cod ml ret p meth c Z a0) (P : KPos wd s' p l e R s m args below meth c Z own n0 h0 ws T h cells slots) (hd : decode cod pc = .ok (.instanceof index, 3)) {pc' : Nat} (hp : pc + 3 = pc') (k' : KGo p e below K T m pc' Ls (.int 0 :: st)) : KGo p e below K T m pc Ls (.null :: st) := by
  subst hp
  obtain ⟨L, X, -⟩ := P
  exact k'.step (X.instanceofNull C.1 (g := mkF m pc Ls (.null :: st)) rfl rfl (hb C.cdE hd))
/-- a plain contract that writes nothing of the start keeps the constants -/
theorem KCt.held {EL : List (String × Nat)} {y : MethodName} {rm : Room} {as : Array Value} {sf : List Addr} {Q : Option Value → Heap → Prop} (k : KCt false l y cod ml ret rm Z n0 h0 as [] Q) (hEL : EW Z a0 EL) : KCh EL l y cod ml ret rm Z n0 h0 as sf [] Q := by
  intro wsc p e h1 h2 h3 s m args below h4 h5 h6 h7
  obtain ⟨n, o, g1, g2, g3, v, L, g4, ⟨g5, g6, g7⟩, g8⟩ := k wsc p e h1 h2 h3 s m args below h4 h5 ⟨h6.1, h6.2.1, h6.2.2.1⟩ h7
  have g8' : FrameEnd s o _ L rm.cells rm.slots := g8
  have E := k_ext_of_keep g6
  have hW : s.WarmedH _ := g8'.2.1
  have q := CHv.later h6.2.1 (h := h0) (hW := hW.wide) hEL E (Or.inl hW.interned_eq) h6.2.2.2.1
  exact ⟨n, o, g1, g2, g3, v, L, g4, ⟨g5, g6, g7⟩, by rw [h6.2.2.1]; exact ⟨q.1, E.1, q.2⟩, ReturnedEndW.of_narrow ⟨v, g4⟩ g8'.2.1 g8'.2.2⟩
theorem KCh.imp {EL : List (String × Nat)} {y : MethodName} {rm : Room} {as : Array Value} {sf : List Addr} {Q Q' : Option Value → Heap → Prop} (k : KCh EL l y cod ml ret rm Z n0 h0 as sf ws Q) (q : ∀ v h, Q v h → Q' v h) : KCh EL l y cod ml ret rm Z n0 h0 as sf ws Q' := by
  intro wsc p e h1 h2 h3 s m args below h4 h5 h6 h7
  obtain ⟨n, o, g1, g2, g3, v, L, g4, ⟨g5, g6, g7⟩, g8⟩ := k wsc p e h1 h2 h3 s m args below h4 h5 h6 h7
  exact ⟨n, o, g1, g2, g3, v, L, g4, ⟨g5, g6, q _ _ g7⟩, g8⟩
theorem k_fldInj {O n d : String} {v v1 : Value} (F : Fld Z h a O n d v) (G : Fld Z h a O n d v1) : v = v1 := by
  obtain ⟨c1, cf1, k1, i1, f1, x1, x2, x3, x4, x5, x6, x7⟩ := F
  obtain ⟨c2, cf2, k2, i2, f2, y1, y2, y3, y4, y5, y6, y7⟩ := G
  cases x1.symm.trans y1
  have e := x2.symm.trans y2
  simp only [Option.some.injEq, Prod.mk.injEq] at e
  obtain ⟨-, -, -, rfl⟩ := e
  exact Option.some.inj (x7.symm.trans y7)
theorem KVA.inj {k k1 : ClassId} {ty ty1 : FieldType} {N N1 : Nat} {f f1 : Nat → Value} (F : KVA Z h a k ty N f) (G : KVA Z h a k1 ty1 N1 f1) : N = N1 ∧ ∀ j, j < N → f j = f1 j := by
  obtain ⟨c, A, -, q2, -, q4⟩ := F; obtain ⟨c1, A1, -, p2, -, p4⟩ := G
  cases A.1.symm.trans A1.1
  exact ⟨q2.symm.trans p2, fun j hj => Option.some.inj ((q4 j hj).symm.trans (p4 j (by omega)))⟩
end Kit
end Jvm.OwnKit
namespace Jvm.OwnNum
theorem toInt {x : Int32} {n : Nat} (h : x.toBitVec.toNat = n) (hn : n < 2147483648) : x.toInt = (n : Int) := by
  show x.toBitVec.toInt = _
  rw [BitVec.toInt_eq_toNat_cond, if_pos (by omega), h]
theorem toNat {x : Int32} {n : Nat} (h : x.toInt = (n : Int)) : x.toBitVec.toNat = n := by
  have := x.toBitVec.isLt
  change x.toBitVec.toInt = _ at h
  rw [BitVec.toInt_eq_toNat_cond] at h
  split at h <;> omega
theorem small {x : Int32} {n : Nat} (h : x.toInt = (n : Int)) : n < 2147483648 := by have := Int32.toInt_lt x; omega
/-- x & m, m not negative -/
theorem mask (x m : Int32) {M : Nat} (hm : m.toInt = (M : Int)) : ∃ N : Nat, (x &&& m).toInt = (N : Int) ∧ N ≤ M := by
  have h1 := toNat hm
  have h2 : (x &&& m).toBitVec.toNat ≤ M := by rw [Int32.toBitVec_and, BitVec.toNat_and, h1]; exact Nat.and_le_right
  have h3 := small hm
  exact ⟨_, toInt rfl (by omega), h2⟩
theorem add {x y : Int32} {X Y : Nat} (hx : x.toInt = (X : Int)) (hy : y.toInt = (Y : Int)) (h : X + Y < 2147483648) : (x + y).toInt = ((X + Y : Nat) : Int) := by
  refine toInt ?_ h
  rw [Int32.toBitVec_add, BitVec.toNat_add, toNat hx, toNat hy]; omega
theorem rem {x y : Int32} {X Y : Nat} (hx : x.toInt = (X : Int)) (hy : y.toInt = (Y : Int)) (h : 0 < Y) : (x % y).toInt = ((X % Y : Nat) : Int) := by
  rw [(Jvm.RoadKit.c_irem x y Y hy).1 (by omega), hx]; rfl
theorem ne0 {y : Int32} {Y : Nat} (hy : y.toInt = (Y : Int)) (h : 0 < Y) : y ≠ 0 := fun e => by subst e; have : (0 : Int32).toInt = 0 := rfl; omega
theorem eq_iff {x y : Int32} {X Y : Nat} (hx : x.toInt = (X : Int)) (hy : y.toInt = (Y : Int)) : x = y ↔ X = Y := by
  rw [← Int32.toInt_inj, hx, hy]; omega
theorem lt_iff {x y : Int32} {X Y : Nat} (hx : x.toInt = (X : Int)) (hy : y.toInt = (Y : Int)) : x < y ↔ X < Y := by
  rw [Int32.lt_iff_toInt_lt, hx, hy]; omega
end Jvm.OwnNum

namespace Jvm.Pilot.@@N@@
open Jvm Jvm.ClassFile Sem Op Lib Jvm.Free Jvm.Stand Jvm.LawKit Jvm.RoadKit Jvm.OwnKit Bundle Jvm.Pilot.@@N@@.Jvm.D
theorem own_EW {Z : State} {a0 : Array Value} (hw : ∀ d ∈ tables_1, d.before a0 Z = true) : EW Z a0 consts_1 := (EW.cons (hw _ (List.mem_of_getElem? (i := 16) rfl)) (by decide) EW.nil)
theorem own_sa {Z : State} {a0 : Array Value} (hw : ∀ d ∈ tables_1, d.before a0 Z = true) : ∀ a ∈ Bundle.stringAtoms, a.before a0 Z = true := (List.forall_mem_cons.mpr ⟨(hw _ (List.mem_of_getElem? (i := 5) rfl)), (List.forall_mem_cons.mpr ⟨(hw _ (List.mem_of_getElem? (i := 4) rfl)), (List.forall_mem_cons.mpr ⟨(hw _ (List.mem_of_getElem? (i := 17) rfl)), (List.forall_mem_cons.mpr ⟨(hw _ (List.mem_of_getElem? (i := 18) rfl)), (List.forall_mem_cons.mpr ⟨(hw _ (List.mem_of_getElem? (i := 19) rfl)), (List.forall_mem_cons.mpr ⟨(hw _ (List.mem_of_getElem? (i := 20) rfl)), (List.forall_mem_cons.mpr ⟨(hw _ (List.mem_of_getElem? (i := 21) rfl)), (by simp)⟩)⟩)⟩)⟩)⟩)⟩)⟩)
theorem d1_0 : decode jdk_42_method_3_code 0 = .ok (.aload_n 0, 1) := by decide +kernel
theorem d1_1 : decode jdk_42_method_3_code 1 = .ok (.aload_n 1, 1) := by decide +kernel
theorem d1_2 : decode jdk_42_method_3_code 2 = .ok (.iconst 0, 1) := by decide +kernel
theorem d1_3 : decode jdk_42_method_3_code 3 = .ok (.aload_n 1, 1) := by decide +kernel
theorem d1_4 : decode jdk_42_method_3_code 4 = .ok (.arraylength, 1) := by decide +kernel
theorem d1_5 : decode jdk_42_method_3_code 5 = .ok (.aconst_null, 1) := by decide +kernel
theorem d1_6 : decode jdk_42_method_3_code 6 = .ok (.invokespecial 27, 3) := by decide +kernel
theorem d1_9 : decode jdk_42_method_3_code 9 = .ok (.return_, 1) := by decide +kernel
theorem d2_0 : decode jdk_42_method_149_code 0 = .ok (.aload_n 0, 1) := by decide +kernel
theorem d2_1 : decode jdk_42_method_149_code 1 = .ok (.invokespecial 1, 3) := by decide +kernel
theorem d2_4 : decode jdk_42_method_149_code 4 = .ok (.iload_n 3, 1) := by decide +kernel
theorem d2_5 : decode jdk_42_method_149_code 5 = .ok (.ifCond .ne 22, 3) := by decide +kernel
theorem d2_8 : decode jdk_42_method_149_code 8 = .ok (.aload_n 0, 1) := by decide +kernel
theorem d2_9 : decode jdk_42_method_149_code 9 = .ok (.ldc 7, 2) := by decide +kernel
theorem d2_11 : decode jdk_42_method_149_code 11 = .ok (.getfield 9, 3) := by decide +kernel
theorem d2_14 : decode jdk_42_method_149_code 14 = .ok (.putfield 9, 3) := by decide +kernel
theorem d2_17 : decode jdk_42_method_149_code 17 = .ok (.aload_n 0, 1) := by decide +kernel
theorem d2_18 : decode jdk_42_method_149_code 18 = .ok (.ldc 7, 2) := by decide +kernel
theorem d2_20 : decode jdk_42_method_149_code 20 = .ok (.getfield 15, 3) := by decide +kernel
theorem d2_23 : decode jdk_42_method_149_code 23 = .ok (.putfield 15, 3) := by decide +kernel
theorem d2_26 : decode jdk_42_method_149_code 26 = .ok (.return_, 1) := by decide +kernel
theorem d2_27 : decode jdk_42_method_149_code 27 = .ok (.getstatic 38, 3) := by decide +kernel
theorem d2_30 : decode jdk_42_method_149_code 30 = .ok (.ifCond .eq 28, 3) := by decide +kernel
theorem d2_33 : decode jdk_42_method_149_code 33 = .ok (.aload_n 1, 1) := by decide +kernel
theorem d2_34 : decode jdk_42_method_149_code 34 = .ok (.iload_n 2, 1) := by decide +kernel
theorem d2_35 : decode jdk_42_method_149_code 35 = .ok (.iload_n 3, 1) := by decide +kernel
theorem d2_36 : decode jdk_42_method_149_code 36 = .ok (.invokestatic 177, 3) := by decide +kernel
theorem d2_39 : decode jdk_42_method_149_code 39 = .ok (.astore 5, 2) := by decide +kernel
theorem d2_41 : decode jdk_42_method_149_code 41 = .ok (.aload_n 0, 1) := by decide +kernel
theorem d2_42 : decode jdk_42_method_149_code 42 = .ok (.aload 5, 2) := by decide +kernel
theorem d2_44 : decode jdk_42_method_149_code 44 = .ok (.iload_n 3, 1) := by decide +kernel
theorem d2_45 : decode jdk_42_method_149_code 45 = .ok (.invokestatic 47, 3) := by decide +kernel
theorem d2_48 : decode jdk_42_method_149_code 48 = .ok (.putfield 15, 3) := by decide +kernel
theorem d2_51 : decode jdk_42_method_149_code 51 = .ok (.aload_n 0, 1) := by decide +kernel
theorem d2_52 : decode jdk_42_method_149_code 52 = .ok (.aload 5, 2) := by decide +kernel
theorem d2_54 : decode jdk_42_method_149_code 54 = .ok (.putfield 9, 3) := by decide +kernel
theorem d2_57 : decode jdk_42_method_149_code 57 = .ok (.return_, 1) := by decide +kernel
theorem d4_0 : decode prog_30_method_9_code 0 = .ok (.aload_n 0, 1) := by decide +kernel
theorem d4_1 : decode prog_30_method_9_code 1 = .ok (.invokevirtual 64, 3) := by decide +kernel
theorem d4_4 : decode prog_30_method_9_code 4 = .ok (.iconst 2, 1) := by decide +kernel
theorem d4_5 : decode prog_30_method_9_code 5 = .ok (.if_icmp .lt 13, 3) := by decide +kernel
theorem d4_8 : decode prog_30_method_9_code 8 = .ok (.aload_n 0, 1) := by decide +kernel
theorem d4_9 : decode prog_30_method_9_code 9 = .ok (.iconst 1, 1) := by decide +kernel
theorem d4_10 : decode prog_30_method_9_code 10 = .ok (.invokevirtual 68, 3) := by decide +kernel
theorem d4_13 : decode prog_30_method_9_code 13 = .ok (.bipush 58, 2) := by decide +kernel
theorem d4_15 : decode prog_30_method_9_code 15 = .ok (.if_icmp .eq 5, 3) := by decide +kernel
theorem d4_18 : decode prog_30_method_9_code 18 = .ok (.iconst 0, 1) := by decide +kernel
theorem d4_19 : decode prog_30_method_9_code 19 = .ok (.ireturn, 1) := by decide +kernel
theorem d4_20 : decode prog_30_method_9_code 20 = .ok (.aload_n 0, 1) := by decide +kernel
theorem d4_21 : decode prog_30_method_9_code 21 = .ok (.iconst 0, 1) := by decide +kernel
theorem d4_22 : decode prog_30_method_9_code 22 = .ok (.invokevirtual 68, 3) := by decide +kernel
theorem d4_25 : decode prog_30_method_9_code 25 = .ok (.istore_n 1, 1) := by decide +kernel
theorem d4_26 : decode prog_30_method_9_code 26 = .ok (.iload_n 1, 1) := by decide +kernel
theorem d4_27 : decode prog_30_method_9_code 27 = .ok (.bipush 97, 2) := by decide +kernel
theorem d4_29 : decode prog_30_method_9_code 29 = .ok (.if_icmp .lt 9, 3) := by decide +kernel
theorem d4_32 : decode prog_30_method_9_code 32 = .ok (.iload_n 1, 1) := by decide +kernel
theorem d4_33 : decode prog_30_method_9_code 33 = .ok (.bipush 122, 2) := by decide +kernel
theorem d4_35 : decode prog_30_method_9_code 35 = .ok (.if_icmp .le 15, 3) := by decide +kernel
theorem d4_38 : decode prog_30_method_9_code 38 = .ok (.iload_n 1, 1) := by decide +kernel
theorem d4_39 : decode prog_30_method_9_code 39 = .ok (.bipush 65, 2) := by decide +kernel
theorem d4_41 : decode prog_30_method_9_code 41 = .ok (.if_icmp .lt 13, 3) := by decide +kernel
theorem d4_44 : decode prog_30_method_9_code 44 = .ok (.iload_n 1, 1) := by decide +kernel
theorem d4_45 : decode prog_30_method_9_code 45 = .ok (.bipush 90, 2) := by decide +kernel
theorem d4_47 : decode prog_30_method_9_code 47 = .ok (.if_icmp .gt 7, 3) := by decide +kernel
theorem d4_50 : decode prog_30_method_9_code 50 = .ok (.iconst 1, 1) := by decide +kernel
theorem d4_51 : decode prog_30_method_9_code 51 = .ok (.goto 4, 3) := by decide +kernel
theorem d4_54 : decode prog_30_method_9_code 54 = .ok (.iconst 0, 1) := by decide +kernel
theorem d4_55 : decode prog_30_method_9_code 55 = .ok (.ireturn, 1) := by decide +kernel
theorem d5_0 : decode jdk_42_method_54_code 0 = .ok (.aload_n 0, 1) := by decide +kernel
theorem d5_1 : decode jdk_42_method_54_code 1 = .ok (.getfield 9, 3) := by decide +kernel
theorem d5_4 : decode jdk_42_method_54_code 4 = .ok (.arraylength, 1) := by decide +kernel
theorem d5_5 : decode jdk_42_method_54_code 5 = .ok (.aload_n 0, 1) := by decide +kernel
theorem d5_6 : decode jdk_42_method_54_code 6 = .ok (.invokevirtual 335, 3) := by decide +kernel
theorem d5_9 : decode jdk_42_method_54_code 9 = .ok (.ishr, 1) := by decide +kernel
theorem d5_10 : decode jdk_42_method_54_code 10 = .ok (.ireturn, 1) := by decide +kernel
theorem d6_0 : decode jdk_42_method_152_code 0 = .ok (.getstatic 38, 3) := by decide +kernel
theorem d6_3 : decode jdk_42_method_152_code 3 = .ok (.ifCond .eq 10, 3) := by decide +kernel
theorem d6_6 : decode jdk_42_method_152_code 6 = .ok (.aload_n 0, 1) := by decide +kernel
theorem d6_7 : decode jdk_42_method_152_code 7 = .ok (.getfield 15, 3) := by decide +kernel
theorem d6_10 : decode jdk_42_method_152_code 10 = .ok (.goto 4, 3) := by decide +kernel
theorem d6_14 : decode jdk_42_method_152_code 14 = .ok (.ireturn, 1) := by decide +kernel
theorem d7_0 : decode jdk_52_method_16_code 0 = .ok (.iload_n 2, 1) := by decide +kernel
theorem d7_1 : decode jdk_52_method_16_code 1 = .ok (.newarray .byte, 2) := by decide +kernel
theorem d7_3 : decode jdk_52_method_16_code 3 = .ok (.astore_n 3, 1) := by decide +kernel
theorem d7_4 : decode jdk_52_method_16_code 4 = .ok (.aload_n 0, 1) := by decide +kernel
theorem d7_5 : decode jdk_52_method_16_code 5 = .ok (.iload_n 1, 1) := by decide +kernel
theorem d7_6 : decode jdk_52_method_16_code 6 = .ok (.aload_n 3, 1) := by decide +kernel
theorem d7_7 : decode jdk_52_method_16_code 7 = .ok (.iconst 0, 1) := by decide +kernel
theorem d7_8 : decode jdk_52_method_16_code 8 = .ok (.iload_n 2, 1) := by decide +kernel
theorem d7_9 : decode jdk_52_method_16_code 9 = .ok (.invokestatic 115, 3) := by decide +kernel
theorem d7_12 : decode jdk_52_method_16_code 12 = .ok (.istore 4, 2) := by decide +kernel
theorem d7_14 : decode jdk_52_method_16_code 14 = .ok (.iload 4, 2) := by decide +kernel
theorem d7_16 : decode jdk_52_method_16_code 16 = .ok (.iload_n 2, 1) := by decide +kernel
theorem d7_17 : decode jdk_52_method_16_code 17 = .ok (.if_icmp .eq 40, 3) := by decide +kernel
theorem d7_20 : decode jdk_52_method_16_code 20 = .ok (.aload_n 0, 1) := by decide +kernel
theorem d7_21 : decode jdk_52_method_16_code 21 = .ok (.iload_n 1, 1) := by decide +kernel
theorem d7_22 : decode jdk_52_method_16_code 22 = .ok (.iload_n 2, 1) := by decide +kernel
theorem d7_23 : decode jdk_52_method_16_code 23 = .ok (.invokestatic 119, 3) := by decide +kernel
theorem d7_26 : decode jdk_52_method_16_code 26 = .ok (.astore 5, 2) := by decide +kernel
theorem d7_28 : decode jdk_52_method_16_code 28 = .ok (.aload 5, 2) := by decide +kernel
theorem d7_30 : decode jdk_52_method_16_code 30 = .ok (.iload 4, 2) := by decide +kernel
theorem d7_32 : decode jdk_52_method_16_code 32 = .ok (.invokestatic 71, 3) := by decide +kernel
theorem d7_35 : decode jdk_52_method_16_code 35 = .ok (.sipush 255, 3) := by decide +kernel
theorem d7_38 : decode jdk_52_method_16_code 38 = .ok (.if_icmp .gt 16, 3) := by decide +kernel
theorem d7_54 : decode jdk_52_method_16_code 54 = .ok (.aload 5, 2) := by decide +kernel
theorem d7_56 : decode jdk_52_method_16_code 56 = .ok (.areturn, 1) := by decide +kernel
theorem d7_57 : decode jdk_52_method_16_code 57 = .ok (.aload_n 3, 1) := by decide +kernel
theorem d7_58 : decode jdk_52_method_16_code 58 = .ok (.areturn, 1) := by decide +kernel
theorem d8_0 : decode jdk_52_method_21_code 0 = .ok (.iconst 0, 1) := by decide +kernel
theorem d8_1 : decode jdk_52_method_21_code 1 = .ok (.istore 5, 2) := by decide +kernel
theorem d8_3 : decode jdk_52_method_21_code 3 = .ok (.iload 5, 2) := by decide +kernel
theorem d8_5 : decode jdk_52_method_21_code 5 = .ok (.iload 4, 2) := by decide +kernel
theorem d8_7 : decode jdk_52_method_21_code 7 = .ok (.if_icmp .ge 37, 3) := by decide +kernel
theorem d8_10 : decode jdk_52_method_21_code 10 = .ok (.aload_n 0, 1) := by decide +kernel
theorem d8_11 : decode jdk_52_method_21_code 11 = .ok (.iload_n 1, 1) := by decide +kernel
theorem d8_12 : decode jdk_52_method_21_code 12 = .ok (.caload, 1) := by decide +kernel
theorem d8_13 : decode jdk_52_method_21_code 13 = .ok (.istore 6, 2) := by decide +kernel
theorem d8_15 : decode jdk_52_method_21_code 15 = .ok (.iload 6, 2) := by decide +kernel
theorem d8_17 : decode jdk_52_method_21_code 17 = .ok (.sipush 255, 3) := by decide +kernel
theorem d8_20 : decode jdk_52_method_21_code 20 = .ok (.if_icmp .le 6, 3) := by decide +kernel
theorem d8_23 : decode jdk_52_method_21_code 23 = .ok (.iload 5, 2) := by decide +kernel
theorem d8_25 : decode jdk_52_method_21_code 25 = .ok (.ireturn, 1) := by decide +kernel
theorem d8_26 : decode jdk_52_method_21_code 26 = .ok (.aload_n 2, 1) := by decide +kernel
theorem d8_27 : decode jdk_52_method_21_code 27 = .ok (.iload_n 3, 1) := by decide +kernel
theorem d8_28 : decode jdk_52_method_21_code 28 = .ok (.iload 6, 2) := by decide +kernel
theorem d8_30 : decode jdk_52_method_21_code 30 = .ok (.i2b, 1) := by decide +kernel
theorem d8_31 : decode jdk_52_method_21_code 31 = .ok (.bastore, 1) := by decide +kernel
theorem d8_32 : decode jdk_52_method_21_code 32 = .ok (.iinc 1 1, 3) := by decide +kernel
theorem d8_35 : decode jdk_52_method_21_code 35 = .ok (.iinc 3 1, 3) := by decide +kernel
theorem d8_38 : decode jdk_52_method_21_code 38 = .ok (.iinc 5 1, 3) := by decide +kernel
theorem d8_41 : decode jdk_52_method_21_code 41 = .ok (.goto (-38), 3) := by decide +kernel
theorem d8_44 : decode jdk_52_method_21_code 44 = .ok (.iload 4, 2) := by decide +kernel
theorem d8_46 : decode jdk_52_method_21_code 46 = .ok (.ireturn, 1) := by decide +kernel
theorem d9_0 : decode jdk_52_method_15_code 0 = .ok (.iload_n 1, 1) := by decide +kernel
theorem d9_1 : decode jdk_52_method_15_code 1 = .ok (.aload_n 0, 1) := by decide +kernel
theorem d9_2 : decode jdk_52_method_15_code 2 = .ok (.arraylength, 1) := by decide +kernel
theorem d9_3 : decode jdk_52_method_15_code 3 = .ok (.isub, 1) := by decide +kernel
theorem d9_4 : decode jdk_52_method_15_code 4 = .ok (.bipush 31, 2) := by decide +kernel
theorem d9_6 : decode jdk_52_method_15_code 6 = .ok (.iushr, 1) := by decide +kernel
theorem d9_7 : decode jdk_52_method_15_code 7 = .ok (.i2b, 1) := by decide +kernel
theorem d9_8 : decode jdk_52_method_15_code 8 = .ok (.ireturn, 1) := by decide +kernel
theorem d10_0 : decode jdk_42_method_56_code 0 = .ok (.aload_n 0, 1) := by decide +kernel
theorem d10_1 : decode jdk_42_method_56_code 1 = .ok (.invokevirtual 492, 3) := by decide +kernel
theorem d10_4 : decode jdk_42_method_56_code 4 = .ok (.ifCond .eq 12, 3) := by decide +kernel
theorem d10_7 : decode jdk_42_method_56_code 7 = .ok (.aload_n 0, 1) := by decide +kernel
theorem d10_8 : decode jdk_42_method_56_code 8 = .ok (.getfield 9, 3) := by decide +kernel
theorem d10_11 : decode jdk_42_method_56_code 11 = .ok (.iload_n 1, 1) := by decide +kernel
theorem d10_12 : decode jdk_42_method_56_code 12 = .ok (.invokestatic 495, 3) := by decide +kernel
theorem d10_15 : decode jdk_42_method_56_code 15 = .ok (.ireturn, 1) := by decide +kernel
theorem d10_16 : decode jdk_42_method_56_code 16 = .ok (.aload_n 0, 1) := by decide +kernel
theorem d10_17 : decode jdk_42_method_56_code 17 = .ok (.getfield 9, 3) := by decide +kernel
theorem d10_20 : decode jdk_42_method_56_code 20 = .ok (.iload_n 1, 1) := by decide +kernel
theorem d10_21 : decode jdk_42_method_56_code 21 = .ok (.invokestatic 498, 3) := by decide +kernel
theorem d10_24 : decode jdk_42_method_56_code 24 = .ok (.ireturn, 1) := by decide +kernel
theorem d11_0 : decode jdk_42_method_154_code 0 = .ok (.getstatic 38, 3) := by decide +kernel
theorem d11_3 : decode jdk_42_method_154_code 3 = .ok (.ifCond .eq 14, 3) := by decide +kernel
theorem d11_6 : decode jdk_42_method_154_code 6 = .ok (.aload_n 0, 1) := by decide +kernel
theorem d11_7 : decode jdk_42_method_154_code 7 = .ok (.getfield 15, 3) := by decide +kernel
theorem d11_10 : decode jdk_42_method_154_code 10 = .ok (.ifCond .ne 7, 3) := by decide +kernel
theorem d11_13 : decode jdk_42_method_154_code 13 = .ok (.iconst 1, 1) := by decide +kernel
theorem d11_14 : decode jdk_42_method_154_code 14 = .ok (.goto 4, 3) := by decide +kernel
theorem d11_17 : decode jdk_42_method_154_code 17 = .ok (.iconst 0, 1) := by decide +kernel
theorem d11_18 : decode jdk_42_method_154_code 18 = .ok (.ireturn, 1) := by decide +kernel
theorem d12_0 : decode jdk_43_method_2_code 0 = .ok (.iload_n 1, 1) := by decide +kernel
theorem d12_1 : decode jdk_43_method_2_code 1 = .ok (.aload_n 0, 1) := by decide +kernel
theorem d12_2 : decode jdk_43_method_2_code 2 = .ok (.arraylength, 1) := by decide +kernel
theorem d12_3 : decode jdk_43_method_2_code 3 = .ok (.invokestatic 9, 3) := by decide +kernel
theorem d12_6 : decode jdk_43_method_2_code 6 = .ok (.aload_n 0, 1) := by decide +kernel
theorem d12_7 : decode jdk_43_method_2_code 7 = .ok (.iload_n 1, 1) := by decide +kernel
theorem d12_8 : decode jdk_43_method_2_code 8 = .ok (.baload, 1) := by decide +kernel
theorem d12_9 : decode jdk_43_method_2_code 9 = .ok (.sipush 255, 3) := by decide +kernel
theorem d12_12 : decode jdk_43_method_2_code 12 = .ok (.iand, 1) := by decide +kernel
theorem d12_13 : decode jdk_43_method_2_code 13 = .ok (.i2c, 1) := by decide +kernel
theorem d12_14 : decode jdk_43_method_2_code 14 = .ok (.ireturn, 1) := by decide +kernel
theorem d13_0 : decode jdk_42_method_155_code 0 = .ok (.iload_n 0, 1) := by decide +kernel
theorem d13_1 : decode jdk_42_method_155_code 1 = .ok (.iload_n 1, 1) := by decide +kernel
theorem d13_2 : decode jdk_42_method_155_code 2 = .ok (.getstatic 1053, 3) := by decide +kernel
theorem d13_5 : decode jdk_42_method_155_code 5 = .ok (.invokestatic 1059, 3) := by decide +kernel
theorem d13_8 : decode jdk_42_method_155_code 8 = .ok (.pop, 1) := by decide +kernel
theorem d13_9 : decode jdk_42_method_155_code 9 = .ok (.return_, 1) := by decide +kernel
theorem d14_0 : decode jdk_41_method_11_code 0 = .ok (.iload_n 0, 1) := by decide +kernel
theorem d14_1 : decode jdk_41_method_11_code 1 = .ok (.ifCond .lt 8, 3) := by decide +kernel
theorem d14_4 : decode jdk_41_method_11_code 4 = .ok (.iload_n 0, 1) := by decide +kernel
theorem d14_5 : decode jdk_41_method_11_code 5 = .ok (.iload_n 1, 1) := by decide +kernel
theorem d14_6 : decode jdk_41_method_11_code 6 = .ok (.if_icmp .lt 10, 3) := by decide +kernel
theorem d14_16 : decode jdk_41_method_11_code 16 = .ok (.iload_n 0, 1) := by decide +kernel
theorem d14_17 : decode jdk_41_method_11_code 17 = .ok (.ireturn, 1) := by decide +kernel
theorem d15_0 : decode jdk_52_method_14_code 0 = .ok (.iload_n 2, 1) := by decide +kernel
theorem d15_1 : decode jdk_52_method_14_code 1 = .ok (.invokestatic 107, 3) := by decide +kernel
theorem d15_4 : decode jdk_52_method_14_code 4 = .ok (.astore_n 3, 1) := by decide +kernel
theorem d15_5 : decode jdk_52_method_14_code 5 = .ok (.iconst 0, 1) := by decide +kernel
theorem d15_6 : decode jdk_52_method_14_code 6 = .ok (.istore 4, 2) := by decide +kernel
theorem d15_8 : decode jdk_52_method_14_code 8 = .ok (.iload 4, 2) := by decide +kernel
theorem d15_10 : decode jdk_52_method_14_code 10 = .ok (.iload_n 2, 1) := by decide +kernel
theorem d15_11 : decode jdk_52_method_14_code 11 = .ok (.if_icmp .ge 21, 3) := by decide +kernel
theorem d15_14 : decode jdk_52_method_14_code 14 = .ok (.aload_n 3, 1) := by decide +kernel
theorem d15_15 : decode jdk_52_method_14_code 15 = .ok (.iload 4, 2) := by decide +kernel
theorem d15_17 : decode jdk_52_method_14_code 17 = .ok (.aload_n 0, 1) := by decide +kernel
theorem d15_18 : decode jdk_52_method_14_code 18 = .ok (.iload_n 1, 1) := by decide +kernel
theorem d15_19 : decode jdk_52_method_14_code 19 = .ok (.caload, 1) := by decide +kernel
theorem d15_20 : decode jdk_52_method_14_code 20 = .ok (.invokestatic 111, 3) := by decide +kernel
theorem d15_23 : decode jdk_52_method_14_code 23 = .ok (.iinc 1 1, 3) := by decide +kernel
theorem d15_26 : decode jdk_52_method_14_code 26 = .ok (.iinc 4 1, 3) := by decide +kernel
theorem d15_29 : decode jdk_52_method_14_code 29 = .ok (.goto (-21), 3) := by decide +kernel
theorem d15_32 : decode jdk_52_method_14_code 32 = .ok (.aload_n 3, 1) := by decide +kernel
theorem d15_33 : decode jdk_52_method_14_code 33 = .ok (.areturn, 1) := by decide +kernel
theorem d16_0 : decode jdk_52_method_2_code 0 = .ok (.iload_n 0, 1) := by decide +kernel
theorem d16_1 : decode jdk_52_method_2_code 1 = .ok (.invokestatic 11, 3) := by decide +kernel
theorem d16_4 : decode jdk_52_method_2_code 4 = .ok (.newarray .byte, 2) := by decide +kernel
theorem d16_6 : decode jdk_52_method_2_code 6 = .ok (.areturn, 1) := by decide +kernel
theorem d17_0 : decode jdk_52_method_3_code 0 = .ok (.iload_n 0, 1) := by decide +kernel
theorem d17_1 : decode jdk_52_method_3_code 1 = .ok (.ifCond .ge 11, 3) := by decide +kernel
theorem d17_12 : decode jdk_52_method_3_code 12 = .ok (.iload_n 0, 1) := by decide +kernel
theorem d17_13 : decode jdk_52_method_3_code 13 = .ok (.ldc 20, 2) := by decide +kernel
theorem d17_15 : decode jdk_52_method_3_code 15 = .ok (.if_icmp .lt 40, 3) := by decide +kernel
theorem d17_55 : decode jdk_52_method_3_code 55 = .ok (.iload_n 0, 1) := by decide +kernel
theorem d17_56 : decode jdk_52_method_3_code 56 = .ok (.iconst 1, 1) := by decide +kernel
theorem d17_57 : decode jdk_52_method_3_code 57 = .ok (.ishl, 1) := by decide +kernel
theorem d17_58 : decode jdk_52_method_3_code 58 = .ok (.ireturn, 1) := by decide +kernel
theorem d18_0 : decode jdk_52_method_4_code 0 = .ok (.getstatic 44, 3) := by decide +kernel
theorem d18_3 : decode jdk_52_method_4_code 3 = .ok (.ifCond .ne 25, 3) := by decide +kernel
theorem d18_28 : decode jdk_52_method_4_code 28 = .ok (.iload_n 1, 1) := by decide +kernel
theorem d18_29 : decode jdk_52_method_4_code 29 = .ok (.iconst 1, 1) := by decide +kernel
theorem d18_30 : decode jdk_52_method_4_code 30 = .ok (.ishl, 1) := by decide +kernel
theorem d18_31 : decode jdk_52_method_4_code 31 = .ok (.istore_n 1, 1) := by decide +kernel
theorem d18_32 : decode jdk_52_method_4_code 32 = .ok (.aload_n 0, 1) := by decide +kernel
theorem d18_33 : decode jdk_52_method_4_code 33 = .ok (.iload_n 1, 1) := by decide +kernel
theorem d18_34 : decode jdk_52_method_4_code 34 = .ok (.iinc 1 1, 3) := by decide +kernel
theorem d18_37 : decode jdk_52_method_4_code 37 = .ok (.iload_n 2, 1) := by decide +kernel
theorem d18_38 : decode jdk_52_method_4_code 38 = .ok (.getstatic 59, 3) := by decide +kernel
theorem d18_41 : decode jdk_52_method_4_code 41 = .ok (.ishr, 1) := by decide +kernel
theorem d18_42 : decode jdk_52_method_4_code 42 = .ok (.i2b, 1) := by decide +kernel
theorem d18_43 : decode jdk_52_method_4_code 43 = .ok (.bastore, 1) := by decide +kernel
theorem d18_44 : decode jdk_52_method_4_code 44 = .ok (.aload_n 0, 1) := by decide +kernel
theorem d18_45 : decode jdk_52_method_4_code 45 = .ok (.iload_n 1, 1) := by decide +kernel
theorem d18_46 : decode jdk_52_method_4_code 46 = .ok (.iload_n 2, 1) := by decide +kernel
theorem d18_47 : decode jdk_52_method_4_code 47 = .ok (.getstatic 63, 3) := by decide +kernel
theorem d18_50 : decode jdk_52_method_4_code 50 = .ok (.ishr, 1) := by decide +kernel
theorem d18_51 : decode jdk_52_method_4_code 51 = .ok (.i2b, 1) := by decide +kernel
theorem d18_52 : decode jdk_52_method_4_code 52 = .ok (.bastore, 1) := by decide +kernel
theorem d18_53 : decode jdk_52_method_4_code 53 = .ok (.return_, 1) := by decide +kernel
theorem d19_0 : decode jdk_52_method_5_code 0 = .ok (.getstatic 44, 3) := by decide +kernel
theorem d19_3 : decode jdk_52_method_5_code 3 = .ok (.ifCond .ne 25, 3) := by decide +kernel
theorem d19_28 : decode jdk_52_method_5_code 28 = .ok (.iload_n 1, 1) := by decide +kernel
theorem d19_29 : decode jdk_52_method_5_code 29 = .ok (.iconst 1, 1) := by decide +kernel
theorem d19_30 : decode jdk_52_method_5_code 30 = .ok (.ishl, 1) := by decide +kernel
theorem d19_31 : decode jdk_52_method_5_code 31 = .ok (.istore_n 1, 1) := by decide +kernel
theorem d19_32 : decode jdk_52_method_5_code 32 = .ok (.aload_n 0, 1) := by decide +kernel
theorem d19_33 : decode jdk_52_method_5_code 33 = .ok (.iload_n 1, 1) := by decide +kernel
theorem d19_34 : decode jdk_52_method_5_code 34 = .ok (.iinc 1 1, 3) := by decide +kernel
theorem d19_37 : decode jdk_52_method_5_code 37 = .ok (.baload, 1) := by decide +kernel
theorem d19_38 : decode jdk_52_method_5_code 38 = .ok (.sipush 255, 3) := by decide +kernel
theorem d19_41 : decode jdk_52_method_5_code 41 = .ok (.iand, 1) := by decide +kernel
theorem d19_42 : decode jdk_52_method_5_code 42 = .ok (.getstatic 59, 3) := by decide +kernel
theorem d19_45 : decode jdk_52_method_5_code 45 = .ok (.ishl, 1) := by decide +kernel
theorem d19_46 : decode jdk_52_method_5_code 46 = .ok (.aload_n 0, 1) := by decide +kernel
theorem d19_47 : decode jdk_52_method_5_code 47 = .ok (.iload_n 1, 1) := by decide +kernel
theorem d19_48 : decode jdk_52_method_5_code 48 = .ok (.baload, 1) := by decide +kernel
theorem d19_49 : decode jdk_52_method_5_code 49 = .ok (.sipush 255, 3) := by decide +kernel
theorem d19_52 : decode jdk_52_method_5_code 52 = .ok (.iand, 1) := by decide +kernel
theorem d19_53 : decode jdk_52_method_5_code 53 = .ok (.getstatic 63, 3) := by decide +kernel
theorem d19_56 : decode jdk_52_method_5_code 56 = .ok (.ishl, 1) := by decide +kernel
theorem d19_57 : decode jdk_52_method_5_code 57 = .ok (.ior, 1) := by decide +kernel
theorem d19_58 : decode jdk_52_method_5_code 58 = .ok (.i2c, 1) := by decide +kernel
theorem d19_59 : decode jdk_52_method_5_code 59 = .ok (.ireturn, 1) := by decide +kernel
theorem d20_0 : decode jdk_52_method_83_code 0 = .ok (.iload_n 1, 1) := by decide +kernel
theorem d20_1 : decode jdk_52_method_83_code 1 = .ok (.aload_n 0, 1) := by decide +kernel
theorem d20_2 : decode jdk_52_method_83_code 2 = .ok (.invokestatic 67, 3) := by decide +kernel
theorem d20_5 : decode jdk_52_method_83_code 5 = .ok (.aload_n 0, 1) := by decide +kernel
theorem d20_6 : decode jdk_52_method_83_code 6 = .ok (.iload_n 1, 1) := by decide +kernel
theorem d20_7 : decode jdk_52_method_83_code 7 = .ok (.invokestatic 71, 3) := by decide +kernel
theorem d20_10 : decode jdk_52_method_83_code 10 = .ok (.ireturn, 1) := by decide +kernel
theorem d21_0 : decode jdk_52_method_91_code 0 = .ok (.iload_n 0, 1) := by decide +kernel
theorem d21_1 : decode jdk_52_method_91_code 1 = .ok (.aload_n 1, 1) := by decide +kernel
theorem d21_2 : decode jdk_52_method_91_code 2 = .ok (.invokestatic 48, 3) := by decide +kernel
theorem d21_5 : decode jdk_52_method_91_code 5 = .ok (.invokestatic 414, 3) := by decide +kernel
theorem d21_8 : decode jdk_52_method_91_code 8 = .ok (.return_, 1) := by decide +kernel
theorem d22_0 : decode jdk_52_method_6_code 0 = .ok (.aload_n 0, 1) := by decide +kernel
theorem d22_1 : decode jdk_52_method_6_code 1 = .ok (.arraylength, 1) := by decide +kernel
theorem d22_2 : decode jdk_52_method_6_code 2 = .ok (.iconst 1, 1) := by decide +kernel
theorem d22_3 : decode jdk_52_method_6_code 3 = .ok (.ishr, 1) := by decide +kernel
theorem d22_4 : decode jdk_52_method_6_code 4 = .ok (.ireturn, 1) := by decide +kernel
theorem pd_0 : parseMethodDescriptor "(I)I" = some ⟨[.int], some .int⟩ := by decide +kernel
theorem pd_1 : parseMethodDescriptor "(I)[B" = some ⟨[.int], some (.array .byte)⟩ := by decide +kernel
theorem pd_2 : parseMethodDescriptor "([BII)V" = some ⟨[(.array .byte), .int, .int], none⟩ := by decide +kernel
theorem pd_3 : parseMethodDescriptor "([CI[BII)I" = some ⟨[(.array .char), .int, (.array .byte), .int, .int], some .int⟩ := by decide +kernel
theorem pd_4 : parseMethodDescriptor "([CII)[B" = some ⟨[(.array .char), .int, .int], some (.array .byte)⟩ := by decide +kernel
theorem pd_5 : parseMethodDescriptor "([BI)B" = some ⟨[(.array .byte), .int], some .byte⟩ := by decide +kernel
theorem pd_6 : parseMethodDescriptor "([CIILjava/lang/Void;)V" = some ⟨[(.array .char), .int, .int, (.object "java/lang/Void")], none⟩ := by decide +kernel
theorem pd_7 : parseMethodDescriptor "([BI)C" = some ⟨[(.array .byte), .int], some .char⟩ := by decide +kernel
theorem pd_8 : parseMethodDescriptor "(IILjava/util/function/BiFunction;)I" = some ⟨[.int, .int, (.object "java/util/function/BiFunction")], some .int⟩ := by decide +kernel
theorem pd_9 : parseMethodDescriptor "(II)V" = some ⟨[.int, .int], none⟩ := by decide +kernel
theorem pd_10 : parseMethodDescriptor "([B)I" = some ⟨[(.array .byte)], some .int⟩ := by decide +kernel
theorem pd_11 : parseMethodDescriptor "(I[B)V" = some ⟨[.int, (.array .byte)], none⟩ := by decide +kernel
theorem pd_12 : parseMethodDescriptor "()Z" = some ⟨[], some .boolean⟩ := by decide +kernel
theorem pd_13 : parseMethodDescriptor "()B" = some ⟨[], some .byte⟩ := by decide +kernel
theorem pd_14 : parseMethodDescriptor "()I" = some ⟨[], some .int⟩ := by decide +kernel
theorem pd_15 : parseMethodDescriptor "(I)C" = some ⟨[.int], some .char⟩ := by decide +kernel
theorem pd_16 : parseMethodDescriptor "([C)V" = some ⟨[(.array .char)], none⟩ := by decide +kernel
theorem pd_17 : parseMethodDescriptor "(Ljava/lang/String;)Z" = some ⟨[(.object "java/lang/String")], some .boolean⟩ := by decide +kernel
abbrev layS : List (String × String × String) := [("java/lang/String", "coder", "B"), ("java/lang/String", "value", "[B")]
theorem lokS {Z : State} {a0 : Array Value} (hw : ∀ d ∈ tables_1, d.before a0 Z = true) : KLay Z a0 "java/lang/String" layS := ⟨(List.forall_mem_cons.mpr ⟨⟨Or.inr (hw _ (List.mem_of_getElem? (i := 19) rfl)), by decide⟩, (List.forall_mem_cons.mpr ⟨⟨Or.inr (hw _ (List.mem_of_getElem? (i := 18) rfl)), by decide⟩, (by simp)⟩)⟩), by decide⟩

theorem own_nb (x : Int32) : nar .byte x.toInt8.toInt32 = x.toInt8.toInt32 := by
  show x.toInt8.toInt32.toInt8.toInt32 = _
  rw [Int8.toInt8_toInt32]

theorem own_shl_0 : (0 : Int32) <<< ((1 : Int32) &&& 31) = 0 := by decide
theorem own_shl_1 : (1 : Int32) <<< ((1 : Int32) &&& 31) = 2 := by decide
theorem own_shl_2 : (2 : Int32) <<< ((1 : Int32) &&& 31) = 4 := by decide
theorem own_shl_3 : (3 : Int32) <<< ((1 : Int32) &&& 31) = 6 := by decide
def own_ch (x : Int32) : Prop := ∃ X : Nat, x.toInt = (X : Int) ∧ X ≤ 65535
def own_lo (x : Int32) : Int32 := (x >>> ((0 : Int32) &&& 31)).toInt8.toInt32
def own_hi (x : Int32) : Int32 := (x >>> ((8 : Int32) &&& 31)).toInt8.toInt32
theorem own_nlo (x : Int32) : nar .byte (x >>> ((0 : Int32) &&& 31)).toInt8.toInt32 = own_lo x := own_nb _
theorem own_nhi (x : Int32) : nar .byte (x >>> ((8 : Int32) &&& 31)).toInt8.toInt32 = own_hi x := own_nb _
theorem own_pj (j i : Nat) {f : Nat → Int32} {y z : Int32} (e : z = y) : (if j = i then Value.int z else Value.int (f j)) = Value.int (if j = i then y else f j) := by
  subst e; by_cases q : j = i <;> simp [q]
theorem own_pk2 (j i : Nat) (f : Nat → Int32) {y z w : Int32} (e : z = y) : (if j = i + 1 then Value.int z else Value.int (if j = i then w else f j)) = Value.int (if j = i then w else if j = i + 1 then y else f j) := by
  subst e; by_cases q : j = i + 1
  · subst q; rw [if_pos rfl, if_neg (by omega), if_pos rfl]
  · rw [if_neg q, if_neg q]
theorem own_z8 : ∀ z : BitVec 8, z.signExtend 32 &&& 255#32 = z.setWidth 32 := by decide +kernel
theorem own_m8 (y : Int32) : (y.toInt8.toInt32 &&& (255 : Int32)).toBitVec.toNat = y.toBitVec.toNat % 256 := by
  show ((y.toBitVec.signExtend 8).signExtend 32 &&& 255#32).toNat = _
  rw [own_z8, BitVec.signExtend_eq_setWidth_of_le _ (by decide), BitVec.toNat_setWidth, BitVec.toNat_setWidth]
  have := y.toBitVec.isLt; omega
theorem own_s0 (x : Int32) : x >>> ((0 : Int32) &&& 31) = x := by
  refine Int32.toBitVec_inj.mp ?_
  show x.toBitVec.sshiftRight 0 = x.toBitVec
  simp
theorem own_s8 {x : Int32} {X : Nat} (h : x.toInt = (X : Int)) : (x >>> ((8 : Int32) &&& 31)).toBitVec.toNat = X / 256 := by
  have e : (x >>> ((8 : Int32) &&& 31)).toInt = ((X / 256 : Nat) : Int) := by
    show (x.toBitVec.sshiftRight 8).toInt = _
    rw [BitVec.toInt_sshiftRight]
    show x.toInt >>> 8 = _
    rw [h, Int.shiftRight_eq_div_pow]; rfl
  exact OwnNum.toNat e
theorem own_get {x : Int32} (h : own_ch x) : nar .char ((((own_lo x) &&& (255 : Int32)) <<< ((0 : Int32) &&& 31)) ||| (((own_hi x) &&& (255 : Int32)) <<< ((8 : Int32) &&& 31))).toUInt32.toUInt16.toUInt32.toInt32 = x := by
  obtain ⟨X, h1, h2⟩ := h
  have hx := OwnNum.toNat h1
  have a1 : ((own_lo x) &&& (255 : Int32)).toBitVec.toNat = X % 256 := by rw [own_lo, own_s0, own_m8, hx]
  have b1 : ((own_hi x) &&& (255 : Int32)).toBitVec.toNat = X / 256 := by rw [own_hi, own_m8, own_s8 h1]; omega
  generalize (own_lo x) &&& (255 : Int32) = p at a1 ⊢
  generalize (own_hi x) &&& (255 : Int32) = q at b1 ⊢
  have e : ((p <<< ((0 : Int32) &&& 31)) ||| (q <<< ((8 : Int32) &&& 31))).toBitVec.toNat = X := by
    rw [Int32.toBitVec_or, BitVec.toNat_or]
    have a2 : (p <<< ((0 : Int32) &&& 31)).toBitVec.toNat = X % 256 := by
      show (p.toBitVec <<< 0).toNat = _
      simp [a1]
    have b2 : (q <<< ((8 : Int32) &&& 31)).toBitVec.toNat = (X / 256) * 256 := by
      show (q.toBitVec <<< 8).toNat = _
      rw [BitVec.toNat_shiftLeft, b1, Nat.shiftLeft_eq]; omega
    rw [a2, b2, Nat.or_comm]
    have := Nat.shiftLeft_add_eq_or_of_lt (b := X % 256) (i := 8) (by omega) (X / 256)
    rw [Nat.shiftLeft_eq] at this
    rw [show (256 : Nat) = 2 ^ 8 from rfl] at *
    rw [← this]; omega
  generalize ((p <<< ((0 : Int32) &&& 31)) ||| (q <<< ((8 : Int32) &&& 31))) = y at e ⊢
  refine Int32.toBitVec_inj.mp (BitVec.eq_of_toNat_eq ?_)
  show ((((y.toBitVec.setWidth 16).setWidth 32).setWidth 16).setWidth 32).toNat = x.toBitVec.toNat
  simp only [BitVec.toNat_setWidth]; omega

theorem own_lat {x : Int32} (h : own_ch x) (hl : ¬ 255 < x) : nar .char (x.toInt8.toInt32 &&& (255 : Int32)).toUInt32.toUInt16.toUInt32.toInt32 = x := by
  obtain ⟨X, h1, h2⟩ := h
  have hx := OwnNum.toNat h1
  rw [OwnNum.lt_iff (show (255 : Int32).toInt = ((255 : Nat) : Int) from rfl) h1] at hl
  have a1 := own_m8 x
  generalize (x.toInt8.toInt32 &&& (255 : Int32)) = y at a1 ⊢
  refine Int32.toBitVec_inj.mp (BitVec.eq_of_toNat_eq ?_)
  show ((((y.toBitVec.setWidth 16).setWidth 32).setWidth 16).setWidth 32).toNat = x.toBitVec.toNat
  simp only [BitVec.toNat_setWidth]; omega
theorem own_nn {x : Int32} (h : own_ch x) : ¬ x < 0 := by
  obtain ⟨X, h1, h2⟩ := h
  rw [Int32.lt_iff_toInt_lt, h1]; have : (0 : Int32).toInt = 0 := rfl; omega

theorem own_n0 {x : Int32} {X : Nat} (h : x.toInt = (X : Int)) : ¬ x < 0 := by rw [Int32.lt_iff_toInt_lt, h]; have : (0 : Int32).toInt = 0 := rfl; omega
theorem own_shr1 {z : Int32} {n : Nat} (h : z.toInt = ((2 * n : Nat) : Int)) : (z >>> ((1 : Int32) &&& 31)).toInt = (n : Int) := by
  show (z.toBitVec.sshiftRight 1).toInt = _
  rw [BitVec.toInt_sshiftRight]
  show z.toInt >>> 1 = _
  rw [h, Int.shiftRight_eq_div_pow]; omega
theorem own_shr0 (z : Int32) : z >>> ((0 : Int32) &&& 31) = z := own_s0 z
theorem own_shr_2 : (4 : Int32) >>> ((1 : Int32) &&& 31) = (2 : Int32) := by decide
theorem own_shr_3 : (6 : Int32) >>> ((1 : Int32) &&& 31) = (3 : Int32) := by decide

theorem own_nch {x : Int32} (h : own_ch x) : nar .char x = x := by
  obtain ⟨X, h1, h2⟩ := h
  have e := OwnNum.toNat h1
  refine Int32.toBitVec_inj.mp (BitVec.eq_of_toNat_eq ?_)
  show ((x.toBitVec.setWidth 16).setWidth 32).toNat = x.toBitVec.toNat
  rw [BitVec.toNat_setWidth, BitVec.toNat_setWidth]; omega

def own_S (n : Nat) (Z : State) (h : Heap) (a : Addr) (c : Nat → Int32) : Prop :=
  (∃ (b : Addr) (kb : ClassId) (f : Nat → Value), KOb Z h a "java/lang/String" layS [.int 0, .ref b] ∧ KVA Z h b kb .byte n f ∧ ∀ j, j < n → (f j = .int (c j).toInt8.toInt32 ∧ ¬ 255 < c j)) ∨
  (∃ (b : Addr) (kb : ClassId) (f : Nat → Int32), KOb Z h a "java/lang/String" layS [.int 1, .ref b] ∧ KVA Z h b kb .byte (2 * n) (fun j => .int (f j)) ∧ ∀ j, j < n → (f (2 * j) = own_lo (c j) ∧ f (2 * j + 1) = own_hi (c j)))
theorem own_S.exa {n : Nat} {Z : State} {h : Heap} {a : Addr} {c : Nat → Int32} (O : own_S n Z h a c) : Exa Z h a "java/lang/String" := by
  rcases O with ⟨b, kb, f, F, -⟩ | ⟨b, kb, f, F, -⟩ <;> exact F.exa
theorem own_S.ext {n : Nat} {Z : State} {h h' : Heap} {a : Addr} {c : Nat → Int32} (O : own_S n Z h a c) (E : Ext h h') : own_S n Z h' a c := by
  rcases O with ⟨b, kb, f, F, V, q⟩ | ⟨b, kb, f, F, V, q⟩
  · exact Or.inl ⟨b, kb, f, F.ext E, V.ext E, q⟩
  · exact Or.inr ⟨b, kb, f, F.ext E, V.ext E, q⟩

theorem own_q (p : Int32) : ∃ X : Nat, ((p &&& (2147483647 : Int32)) % (4 : Int32)).toInt = (X : Int) ∧ X < 4 := by
  obtain ⟨M, h1, h2⟩ := OwnNum.mask p 2147483647 (M := 2147483647) rfl
  exact ⟨M % 4, OwnNum.rem h1 (show (4 : Int32).toInt = ((4 : Nat) : Int) from rfl) (by decide), Nat.mod_lt _ (by decide)⟩
theorem own_chc (y : Int32) : own_ch (y.toUInt32.toUInt16.toUInt32.toInt32) := by
  have e : (y.toUInt32.toUInt16.toUInt32.toInt32).toBitVec.toNat = y.toBitVec.toNat % 65536 := by
    show ((y.toBitVec.setWidth 16).setWidth 32).toNat = _
    rw [BitVec.toNat_setWidth, BitVec.toNat_setWidth]; omega
  have := Nat.mod_lt y.toBitVec.toNat (show 0 < 65536 by decide)
  exact ⟨_, OwnNum.toInt e (by omega), by omega⟩
theorem own_chi (P : Prop) [Decidable P] {x y : Int32} (hx : own_ch x) (hy : own_ch y) : own_ch (if P then x else y) := by
  by_cases p : P
  · rw [if_pos p]; exact hx
  · rw [if_neg p]; exact hy
theorem own_l3 {y : Int32} {Y : Nat} (hY : y.toInt = (Y : Int)) (h : Y < 4) (q0 : ¬ y = 0) (q1 : ¬ y = 1) (q2 : ¬ y = 2) : y = 3 := by
  rw [OwnNum.eq_iff hY (show (0 : Int32).toInt = ((0 : Nat) : Int) from rfl)] at q0
  rw [OwnNum.eq_iff hY (show (1 : Int32).toInt = ((1 : Nat) : Int) from rfl)] at q1
  rw [OwnNum.eq_iff hY (show (2 : Int32).toInt = ((2 : Nat) : Int) from rfl)] at q2
  exact (OwnNum.eq_iff hY (show (3 : Int32).toInt = ((3 : Nat) : Int) from rfl)).mpr (by omega)
theorem own_i0 {P : Prop} [Decidable P] (h : (if P then (1 : Int32) else 0) = 0) : ¬ P := fun p => by rw [if_pos p] at h; exact absurd h (by decide)
theorem own_i1 {P : Prop} [Decidable P] (h : ¬ (if P then (1 : Int32) else 0) = 0) : P := by
  by_cases p : P
  · exact p
  · rw [if_neg p] at h; exact absurd rfl h
theorem own_t128 : ∀ C : Fin 128, ((¬ C.val < 97 ∧ ¬ 122 < C.val) ∨ (¬ C.val < 65 ∧ ¬ 90 < C.val)) ↔ (¬ (C.val ||| 32) < 97 ∧ ¬ 122 < (C.val ||| 32)) := by decide
theorem own_letN (C : Nat) : ((¬ C < 97 ∧ ¬ 122 < C) ∨ (¬ C < 65 ∧ ¬ 90 < C)) ↔ (¬ (C ||| 32) < 97 ∧ ¬ 122 < (C ||| 32)) := by
  by_cases h : C < 128
  · exact own_t128 ⟨C, h⟩
  · have := Nat.left_le_or (n := C) (m := 32)
    constructor
    · intro q; omega
    · intro q; omega
theorem own_let {x : Int32} (h : own_ch x) : ((¬ x < (97 : Int32) ∧ ¬ (122 : Int32) < x) ∨ (¬ x < (65 : Int32) ∧ ¬ (90 : Int32) < x)) ↔ (¬ (x ||| (32 : Int32)) < (97 : Int32) ∧ ¬ (122 : Int32) < (x ||| (32 : Int32))) := by
  obtain ⟨C, h1, h2⟩ := h
  have e : (x ||| (32 : Int32)).toInt = ((C ||| 32 : Nat) : Int) := by
    refine OwnNum.toInt ?_ ?_
    · rw [Int32.toBitVec_or, BitVec.toNat_or, OwnNum.toNat h1]; rfl
    · have := Nat.or_lt_two_pow (x := C) (y := 32) (n := 16) (by omega) (by decide); omega
  have k97 : (97 : Int32).toInt = ((97 : Nat) : Int) := rfl
  have k122 : (122 : Int32).toInt = ((122 : Nat) : Int) := rfl
  have k65 : (65 : Int32).toInt = ((65 : Nat) : Int) := rfl
  have k90 : (90 : Int32).toInt = ((90 : Nat) : Int) := rfl
  rw [OwnNum.lt_iff h1 k97, OwnNum.lt_iff k122 h1, OwnNum.lt_iff h1 k65, OwnNum.lt_iff k90 h1, OwnNum.lt_iff e k97, OwnNum.lt_iff k122 e]
  exact own_letN C
theorem own_same {c0 : Int32} (h : own_ch c0) (c1 : Int32) : (if c1 = 58 ∧ ((¬ c0 < (97 : Int32) ∧ ¬ (122 : Int32) < c0) ∨ (¬ c0 < (65 : Int32) ∧ ¬ (90 : Int32) < c0)) then (1 : Int32) else 0) = (if c1 = 58 ∧ (¬ (c0 ||| (32 : Int32)) < (97 : Int32) ∧ ¬ (122 : Int32) < (c0 ||| (32 : Int32))) then (1 : Int32) else 0) := by
  by_cases q : c1 = 58 ∧ ((¬ c0 < (97 : Int32) ∧ ¬ (122 : Int32) < c0) ∨ (¬ c0 < (65 : Int32) ∧ ¬ (90 : Int32) < c0))
  · rw [if_pos q, if_pos ⟨q.1, (own_let h).mp q.2⟩]
  · rw [if_neg q, if_neg (fun r => q ⟨r.1, (own_let h).mpr r.2⟩)]
theorem own_cs {s : State} {args : Array Value} (h : ∀ d ∈ jdkStatics_1, d.before args s = true) : ∃ cs : Int32, ¬ cs = 0 ∧ Sta s s.heap "java/lang/String" "COMPACT_STRINGS" "Z" (.int cs) := by
  have c0 := h _ (List.mem_of_getElem? (i := 0) rfl)
  have c1 := Cond.before_iff.mp (h _ (List.mem_of_getElem? (i := 1) rfl))
  have c2 := Cond.before_iff.mp (h _ (List.mem_of_getElem? (i := 2) rfl))
  obtain ⟨cs, ecs⟩ := is_v c1
  exact ⟨cs, gotF (Cond.eq_ints ecs (Term.int_eval 0)) (not_v c2), Sta.start ecs (Or.inl c0)⟩
theorem own_fm {s : State} {args : Array Value} (h : ∀ d ∈ jdkStatics_1, d.before args s = true) : ∃ fv : Value, fv.isRef = true ∧ Sta s s.heap "jdk/internal/util/Preconditions" "SIOOBE_FORMATTER" "Ljava/util/function/BiFunction;" fv := by
  have c0 := h _ (List.mem_of_getElem? (i := 7) rfl)
  have c1 := Cond.before_iff.mp (h _ (List.mem_of_getElem? (i := 8) rfl))
  obtain ⟨fv, e, q⟩ := isR_v c1
  exact ⟨fv, q, Sta.start e (Or.inl c0)⟩
theorem own_si {s : State} {args : Array Value} {C n d : String} {z : Int32} (c0 : (Jvm.Cond.initializedFor C n d).before args s = true) (c1 : (Jvm.Cond.eq (.static C n d) (.int z)).before args s = true) : Sta s s.heap C n d (.int z) :=
  Sta.start (eqv_i (Term.int_eval z) (Cond.before_iff.mp c1)) (Or.inl c0)
theorem pn_18 : plainName "java/lang/StringUTF16" = true := by first | (simp [plainName, overriddenIn]; done) | decide +kernel
theorem ef_rmPC0 (m : MethodId) (x0 : Addr) (x1 : Int32) (x2 : Int32) : entryFrame m #[(.ref x0), (.int x1), (.int x2)] 3 = mkF m 0 #[.val (.ref x0), .val (.int x1), .val (.int x2)] [] := by first | (simp [entryFrame, mkF, argsToLocals, Value.category]; done) | rfl
set_option maxRecDepth 65536 in
set_option maxHeartbeats 40000000 in
theorem rmPC0 (l : Launch) (Z : State) (a0 : Array Value) (hw : ∀ d ∈ tables_1, d.before a0 Z = true) (h0 : Heap) (n0 : Nat) (Z0 : n0 ≤ h0.size) (b : Addr) (kb : ClassId) (N : Nat) (hN : 1 < N) (f : Nat → Int32) (x : Int32) (SA : Sta Z h0 "java/lang/StringUTF16" "$assertionsDisabled" "Z" (.int 1)) (SH : Sta Z h0 "java/lang/StringUTF16" "HI_BYTE_SHIFT" "I" (.int 0)) (SL : Sta Z h0 "java/lang/StringUTF16" "LO_BYTE_SHIFT" "I" (.int 8)) (ge_b : n0 ≤ b) (V : KVA Z h0 b kb .byte N (fun j => .int (f j))) :
    KCt false l (⟨"java/lang/StringUTF16", "putChar", "([BII)V"⟩ : MethodName) jdk_52_method_4_code 3 none ({ frames := 0, cells := 0, slots := 0, locals := 0 } : Room) Z n0 h0 #[(.ref b), (.int (0 : Int32)), (.int x)] [b] (fun v h => v = none ∧ KVA Z h b kb .byte N (fun j => .int (if j = 0 then (own_lo x) else if j = 1 then (own_hi x) else f j))) := by
  refine k_enter (tbl := tables_1) (a0 := a0) (Ls := #[.val (.ref b), .val (.int (0 : Int32)), .val (.int x)]) (plainFor_of_name pn_18) hw Z0 (fun m => ef_rmPC0 m b (0 : Int32) x) ?_
  intro p e s m below meth c T C P
  have sz_b : b ∈ [b] ∨ h0.size ≤ b := Or.inl (by simp)
  refine k_gets (pc' := 3) C P (C.w 84 rfl) Via.refl SA d18_0 rfl ?_
  intro T1 P1
  refine k_ifY (pc' := 28) C P1 d18_3 k_10 (by decide) (by decide) ?_
  refine k_iloadN (pc' := 29) C P1 d18_28 rfl rfl ?_
  refine k_iconst (z := (1 : Int32)) (pc' := 30) C P1 d18_29 rfl rfl ?_
  refine k_ishl (pc' := 31) C P1 d18_30 rfl ?_
  rw [own_shl_0]
  refine k_istoreN (l' := #[.val (.ref b), .val (.int (0 : Int32)), .val (.int x)]) (pc' := 32) C P1 d18_31 rfl rfl ?_
  refine k_aloadN (pc' := 33) C P1 d18_32 rfl rfl rfl ?_
  refine k_iloadN (pc' := 34) C P1 d18_33 rfl rfl ?_
  refine k_iinc (z := (1 : Int32)) (l' := #[.val (.ref b), .val (.int (1 : Int32)), .val (.int x)]) (pc' := 37) C P1 d18_34 rfl rfl rfl rfl ?_
  refine k_iloadN (pc' := 38) C P1 d18_37 rfl rfl ?_
  refine k_gets (pc' := 41) C P1 (C.w 85 rfl) Via.refl SH d18_38 rfl ?_
  intro T2 P2
  refine k_ishr (pc' := 42) C P2 d18_41 rfl ?_
  refine k_i2b (pc' := 43) C P2 d18_42 rfl ?_
  refine k_bastore (J := 0) (g' := (fun j => Value.int (if j = 0 then (own_lo x) else f j))) (pc' := 44) C P2 V d18_43 rfl (by omega) (fun j _ => own_pj j 0 (own_nlo x)) ge_b sz_b rfl ?_
  intro T3 h3 P3 W3 V3
  have f3_S__assertionsDisabled := Sta.wr W3 SA
  have f3_S_HI_BYTE_SHIFT := Sta.wr W3 SH
  have f3_S_LO_BYTE_SHIFT := Sta.wr W3 SL
  refine k_aloadN (pc' := 45) C P3 d18_44 rfl rfl rfl ?_
  refine k_iloadN (pc' := 46) C P3 d18_45 rfl rfl ?_
  refine k_iloadN (pc' := 47) C P3 d18_46 rfl rfl ?_
  refine k_gets (pc' := 50) C P3 (C.w 86 rfl) Via.refl f3_S_LO_BYTE_SHIFT d18_47 rfl ?_
  intro T4 P4
  refine k_ishr (pc' := 51) C P4 d18_50 rfl ?_
  refine k_i2b (pc' := 52) C P4 d18_51 rfl ?_
  refine k_bastore (J := 1) (g' := (fun j => Value.int (if j = 0 then (own_lo x) else if j = 1 then (own_hi x) else f j))) (pc' := 53) C P4 V3 d18_52 rfl hN (fun j _ => own_pk2 j 0 f (own_nhi x)) ge_b sz_b rfl ?_
  intro T5 h5 P5 W5 V5
  have f5_S__assertionsDisabled := Sta.wr W5 f3_S__assertionsDisabled
  have f5_S_HI_BYTE_SHIFT := Sta.wr W5 f3_S_HI_BYTE_SHIFT
  have f5_S_LO_BYTE_SHIFT := Sta.wr W5 f3_S_LO_BYTE_SHIFT
  exact k_retV C P5 d18_53 (by decide) (by decide) ⟨rfl, V5⟩
theorem pn_19 : plainName "java/lang/StringUTF16" = true := by first | (simp [plainName, overriddenIn]; done) | decide +kernel
theorem ef_rmGC0 (m : MethodId) (x0 : Addr) (x1 : Int32) : entryFrame m #[(.ref x0), (.int x1)] 2 = mkF m 0 #[.val (.ref x0), .val (.int x1)] [] := by first | (simp [entryFrame, mkF, argsToLocals, Value.category]; done) | rfl
set_option maxRecDepth 65536 in
set_option maxHeartbeats 40000000 in
theorem rmGC0 (l : Launch) (Z : State) (a0 : Array Value) (hw : ∀ d ∈ tables_1, d.before a0 Z = true) (h0 : Heap) (n0 : Nat) (Z0 : n0 ≤ h0.size) (b : Addr) (kb : ClassId) (N : Nat) (hN : 1 < N) (f : Nat → Int32) (x : Int32) (hx : own_ch x) (e0 : f 0 = (own_lo x)) (e1 : f 1 = (own_hi x)) (SA : Sta Z h0 "java/lang/StringUTF16" "$assertionsDisabled" "Z" (.int 1)) (SH : Sta Z h0 "java/lang/StringUTF16" "HI_BYTE_SHIFT" "I" (.int 0)) (SL : Sta Z h0 "java/lang/StringUTF16" "LO_BYTE_SHIFT" "I" (.int 8)) (V : KVA Z h0 b kb .byte N (fun j => .int (f j))) :
    KCt false l (⟨"java/lang/StringUTF16", "getChar", "([BI)C"⟩ : MethodName) jdk_52_method_5_code 2 (some .char) ({ frames := 0, cells := 0, slots := 0, locals := 0 } : Room) Z n0 h0 #[(.ref b), (.int (0 : Int32))] [] (fun v h => v = some (.int x) ∧ h0 = h) := by
  refine k_enter (tbl := tables_1) (a0 := a0) (Ls := #[.val (.ref b), .val (.int (0 : Int32))]) (plainFor_of_name pn_19) hw Z0 (fun m => ef_rmGC0 m b (0 : Int32)) ?_
  intro p e s m below meth c T C P
  refine k_gets (pc' := 3) C P (C.w 84 rfl) Via.refl SA d19_0 rfl ?_
  intro T6 P6
  refine k_ifY (pc' := 28) C P6 d19_3 k_10 (by decide) (by decide) ?_
  refine k_iloadN (pc' := 29) C P6 d19_28 rfl rfl ?_
  refine k_iconst (z := (1 : Int32)) (pc' := 30) C P6 d19_29 rfl rfl ?_
  refine k_ishl (pc' := 31) C P6 d19_30 rfl ?_
  rw [own_shl_0]
  refine k_istoreN (l' := #[.val (.ref b), .val (.int (0 : Int32))]) (pc' := 32) C P6 d19_31 rfl rfl ?_
  refine k_aloadN (pc' := 33) C P6 d19_32 rfl rfl rfl ?_
  refine k_iloadN (pc' := 34) C P6 d19_33 rfl rfl ?_
  refine k_iinc (z := (1 : Int32)) (l' := #[.val (.ref b), .val (.int (1 : Int32))]) (pc' := 37) C P6 d19_34 rfl rfl rfl rfl ?_
  refine k_baload (J := 0) (v := (.int (own_lo x))) (pc' := 38) C P6 V d19_37 rfl (by omega) (congrArg Value.int e0) rfl ?_
  refine k_sipush (z := (255 : Int32)) (pc' := 41) C P6 d19_38 rfl rfl ?_
  refine k_iand (pc' := 42) C P6 d19_41 rfl ?_
  refine k_gets (pc' := 45) C P6 (C.w 85 rfl) Via.refl SH d19_42 rfl ?_
  intro T7 P7
  refine k_ishl (pc' := 46) C P7 d19_45 rfl ?_
  refine k_aloadN (pc' := 47) C P7 d19_46 rfl rfl rfl ?_
  refine k_iloadN (pc' := 48) C P7 d19_47 rfl rfl ?_
  refine k_baload (J := 1) (v := (.int (own_hi x))) (pc' := 49) C P7 V d19_48 rfl hN (congrArg Value.int e1) rfl ?_
  refine k_sipush (z := (255 : Int32)) (pc' := 52) C P7 d19_49 rfl rfl ?_
  refine k_iand (pc' := 53) C P7 d19_52 rfl ?_
  refine k_gets (pc' := 56) C P7 (C.w 86 rfl) Via.refl SL d19_53 rfl ?_
  intro T8 P8
  refine k_ishl (pc' := 57) C P8 d19_56 rfl ?_
  refine k_ior (pc' := 58) C P8 d19_57 rfl ?_
  refine k_i2c (pc' := 59) C P8 d19_58 rfl ?_
  exact k_retZ (z' := x) C P8 (by simp) d19_59 (own_get hx) (by decide) (by decide) ⟨rfl, rfl⟩
theorem ef_rmPC1 (m : MethodId) (x0 : Addr) (x1 : Int32) (x2 : Int32) : entryFrame m #[(.ref x0), (.int x1), (.int x2)] 3 = mkF m 0 #[.val (.ref x0), .val (.int x1), .val (.int x2)] [] := by first | (simp [entryFrame, mkF, argsToLocals, Value.category]; done) | rfl
set_option maxRecDepth 65536 in
set_option maxHeartbeats 40000000 in
theorem rmPC1 (l : Launch) (Z : State) (a0 : Array Value) (hw : ∀ d ∈ tables_1, d.before a0 Z = true) (h0 : Heap) (n0 : Nat) (Z0 : n0 ≤ h0.size) (b : Addr) (kb : ClassId) (N : Nat) (hN : 3 < N) (f : Nat → Int32) (x : Int32) (SA : Sta Z h0 "java/lang/StringUTF16" "$assertionsDisabled" "Z" (.int 1)) (SH : Sta Z h0 "java/lang/StringUTF16" "HI_BYTE_SHIFT" "I" (.int 0)) (SL : Sta Z h0 "java/lang/StringUTF16" "LO_BYTE_SHIFT" "I" (.int 8)) (ge_b : n0 ≤ b) (V : KVA Z h0 b kb .byte N (fun j => .int (f j))) :
    KCt false l (⟨"java/lang/StringUTF16", "putChar", "([BII)V"⟩ : MethodName) jdk_52_method_4_code 3 none ({ frames := 0, cells := 0, slots := 0, locals := 0 } : Room) Z n0 h0 #[(.ref b), (.int (1 : Int32)), (.int x)] [b] (fun v h => v = none ∧ KVA Z h b kb .byte N (fun j => .int (if j = 2 then (own_lo x) else if j = 3 then (own_hi x) else f j))) := by
  refine k_enter (tbl := tables_1) (a0 := a0) (Ls := #[.val (.ref b), .val (.int (1 : Int32)), .val (.int x)]) (plainFor_of_name pn_18) hw Z0 (fun m => ef_rmPC1 m b (1 : Int32) x) ?_
  intro p e s m below meth c T C P
  have sz_b : b ∈ [b] ∨ h0.size ≤ b := Or.inl (by simp)
  refine k_gets (pc' := 3) C P (C.w 84 rfl) Via.refl SA d18_0 rfl ?_
  intro T9 P9
  refine k_ifY (pc' := 28) C P9 d18_3 k_10 (by decide) (by decide) ?_
  refine k_iloadN (pc' := 29) C P9 d18_28 rfl rfl ?_
  refine k_iconst (z := (1 : Int32)) (pc' := 30) C P9 d18_29 rfl rfl ?_
  refine k_ishl (pc' := 31) C P9 d18_30 rfl ?_
  rw [own_shl_1]
  refine k_istoreN (l' := #[.val (.ref b), .val (.int (2 : Int32)), .val (.int x)]) (pc' := 32) C P9 d18_31 rfl rfl ?_
  refine k_aloadN (pc' := 33) C P9 d18_32 rfl rfl rfl ?_
  refine k_iloadN (pc' := 34) C P9 d18_33 rfl rfl ?_
  refine k_iinc (z := (3 : Int32)) (l' := #[.val (.ref b), .val (.int (3 : Int32)), .val (.int x)]) (pc' := 37) C P9 d18_34 rfl rfl rfl rfl ?_
  refine k_iloadN (pc' := 38) C P9 d18_37 rfl rfl ?_
  refine k_gets (pc' := 41) C P9 (C.w 85 rfl) Via.refl SH d18_38 rfl ?_
  intro T10 P10
  refine k_ishr (pc' := 42) C P10 d18_41 rfl ?_
  refine k_i2b (pc' := 43) C P10 d18_42 rfl ?_
  refine k_bastore (J := 2) (g' := (fun j => Value.int (if j = 2 then (own_lo x) else f j))) (pc' := 44) C P10 V d18_43 rfl (by omega) (fun j _ => own_pj j 2 (own_nlo x)) ge_b sz_b rfl ?_
  intro T11 h11 P11 W11 V11
  have f11_S__assertionsDisabled := Sta.wr W11 SA
  have f11_S_HI_BYTE_SHIFT := Sta.wr W11 SH
  have f11_S_LO_BYTE_SHIFT := Sta.wr W11 SL
  refine k_aloadN (pc' := 45) C P11 d18_44 rfl rfl rfl ?_
  refine k_iloadN (pc' := 46) C P11 d18_45 rfl rfl ?_
  refine k_iloadN (pc' := 47) C P11 d18_46 rfl rfl ?_
  refine k_gets (pc' := 50) C P11 (C.w 86 rfl) Via.refl f11_S_LO_BYTE_SHIFT d18_47 rfl ?_
  intro T12 P12
  refine k_ishr (pc' := 51) C P12 d18_50 rfl ?_
  refine k_i2b (pc' := 52) C P12 d18_51 rfl ?_
  refine k_bastore (J := 3) (g' := (fun j => Value.int (if j = 2 then (own_lo x) else if j = 3 then (own_hi x) else f j))) (pc' := 53) C P12 V11 d18_52 rfl hN (fun j _ => own_pk2 j 2 f (own_nhi x)) ge_b sz_b rfl ?_
  intro T13 h13 P13 W13 V13
  have f13_S__assertionsDisabled := Sta.wr W13 f11_S__assertionsDisabled
  have f13_S_HI_BYTE_SHIFT := Sta.wr W13 f11_S_HI_BYTE_SHIFT
  have f13_S_LO_BYTE_SHIFT := Sta.wr W13 f11_S_LO_BYTE_SHIFT
  exact k_retV C P13 d18_53 (by decide) (by decide) ⟨rfl, V13⟩
theorem ef_rmGC1 (m : MethodId) (x0 : Addr) (x1 : Int32) : entryFrame m #[(.ref x0), (.int x1)] 2 = mkF m 0 #[.val (.ref x0), .val (.int x1)] [] := by first | (simp [entryFrame, mkF, argsToLocals, Value.category]; done) | rfl
set_option maxRecDepth 65536 in
set_option maxHeartbeats 40000000 in
theorem rmGC1 (l : Launch) (Z : State) (a0 : Array Value) (hw : ∀ d ∈ tables_1, d.before a0 Z = true) (h0 : Heap) (n0 : Nat) (Z0 : n0 ≤ h0.size) (b : Addr) (kb : ClassId) (N : Nat) (hN : 3 < N) (f : Nat → Int32) (x : Int32) (hx : own_ch x) (e0 : f 2 = (own_lo x)) (e1 : f 3 = (own_hi x)) (SA : Sta Z h0 "java/lang/StringUTF16" "$assertionsDisabled" "Z" (.int 1)) (SH : Sta Z h0 "java/lang/StringUTF16" "HI_BYTE_SHIFT" "I" (.int 0)) (SL : Sta Z h0 "java/lang/StringUTF16" "LO_BYTE_SHIFT" "I" (.int 8)) (V : KVA Z h0 b kb .byte N (fun j => .int (f j))) :
    KCt false l (⟨"java/lang/StringUTF16", "getChar", "([BI)C"⟩ : MethodName) jdk_52_method_5_code 2 (some .char) ({ frames := 0, cells := 0, slots := 0, locals := 0 } : Room) Z n0 h0 #[(.ref b), (.int (1 : Int32))] [] (fun v h => v = some (.int x) ∧ h0 = h) := by
  refine k_enter (tbl := tables_1) (a0 := a0) (Ls := #[.val (.ref b), .val (.int (1 : Int32))]) (plainFor_of_name pn_19) hw Z0 (fun m => ef_rmGC1 m b (1 : Int32)) ?_
  intro p e s m below meth c T C P
  refine k_gets (pc' := 3) C P (C.w 84 rfl) Via.refl SA d19_0 rfl ?_
  intro T14 P14
  refine k_ifY (pc' := 28) C P14 d19_3 k_10 (by decide) (by decide) ?_
  refine k_iloadN (pc' := 29) C P14 d19_28 rfl rfl ?_
  refine k_iconst (z := (1 : Int32)) (pc' := 30) C P14 d19_29 rfl rfl ?_
  refine k_ishl (pc' := 31) C P14 d19_30 rfl ?_
  rw [own_shl_1]
  refine k_istoreN (l' := #[.val (.ref b), .val (.int (2 : Int32))]) (pc' := 32) C P14 d19_31 rfl rfl ?_
  refine k_aloadN (pc' := 33) C P14 d19_32 rfl rfl rfl ?_
  refine k_iloadN (pc' := 34) C P14 d19_33 rfl rfl ?_
  refine k_iinc (z := (3 : Int32)) (l' := #[.val (.ref b), .val (.int (3 : Int32))]) (pc' := 37) C P14 d19_34 rfl rfl rfl rfl ?_
  refine k_baload (J := 2) (v := (.int (own_lo x))) (pc' := 38) C P14 V d19_37 rfl (by omega) (congrArg Value.int e0) rfl ?_
  refine k_sipush (z := (255 : Int32)) (pc' := 41) C P14 d19_38 rfl rfl ?_
  refine k_iand (pc' := 42) C P14 d19_41 rfl ?_
  refine k_gets (pc' := 45) C P14 (C.w 85 rfl) Via.refl SH d19_42 rfl ?_
  intro T15 P15
  refine k_ishl (pc' := 46) C P15 d19_45 rfl ?_
  refine k_aloadN (pc' := 47) C P15 d19_46 rfl rfl rfl ?_
  refine k_iloadN (pc' := 48) C P15 d19_47 rfl rfl ?_
  refine k_baload (J := 3) (v := (.int (own_hi x))) (pc' := 49) C P15 V d19_48 rfl hN (congrArg Value.int e1) rfl ?_
  refine k_sipush (z := (255 : Int32)) (pc' := 52) C P15 d19_49 rfl rfl ?_
  refine k_iand (pc' := 53) C P15 d19_52 rfl ?_
  refine k_gets (pc' := 56) C P15 (C.w 86 rfl) Via.refl SL d19_53 rfl ?_
  intro T16 P16
  refine k_ishl (pc' := 57) C P16 d19_56 rfl ?_
  refine k_ior (pc' := 58) C P16 d19_57 rfl ?_
  refine k_i2c (pc' := 59) C P16 d19_58 rfl ?_
  exact k_retZ (z' := x) C P16 (by simp) d19_59 (own_get hx) (by decide) (by decide) ⟨rfl, rfl⟩
theorem ef_rmPC2 (m : MethodId) (x0 : Addr) (x1 : Int32) (x2 : Int32) : entryFrame m #[(.ref x0), (.int x1), (.int x2)] 3 = mkF m 0 #[.val (.ref x0), .val (.int x1), .val (.int x2)] [] := by first | (simp [entryFrame, mkF, argsToLocals, Value.category]; done) | rfl
set_option maxRecDepth 65536 in
set_option maxHeartbeats 40000000 in
theorem rmPC2 (l : Launch) (Z : State) (a0 : Array Value) (hw : ∀ d ∈ tables_1, d.before a0 Z = true) (h0 : Heap) (n0 : Nat) (Z0 : n0 ≤ h0.size) (b : Addr) (kb : ClassId) (N : Nat) (hN : 5 < N) (f : Nat → Int32) (x : Int32) (SA : Sta Z h0 "java/lang/StringUTF16" "$assertionsDisabled" "Z" (.int 1)) (SH : Sta Z h0 "java/lang/StringUTF16" "HI_BYTE_SHIFT" "I" (.int 0)) (SL : Sta Z h0 "java/lang/StringUTF16" "LO_BYTE_SHIFT" "I" (.int 8)) (ge_b : n0 ≤ b) (V : KVA Z h0 b kb .byte N (fun j => .int (f j))) :
    KCt false l (⟨"java/lang/StringUTF16", "putChar", "([BII)V"⟩ : MethodName) jdk_52_method_4_code 3 none ({ frames := 0, cells := 0, slots := 0, locals := 0 } : Room) Z n0 h0 #[(.ref b), (.int (2 : Int32)), (.int x)] [b] (fun v h => v = none ∧ KVA Z h b kb .byte N (fun j => .int (if j = 4 then (own_lo x) else if j = 5 then (own_hi x) else f j))) := by
  refine k_enter (tbl := tables_1) (a0 := a0) (Ls := #[.val (.ref b), .val (.int (2 : Int32)), .val (.int x)]) (plainFor_of_name pn_18) hw Z0 (fun m => ef_rmPC2 m b (2 : Int32) x) ?_
  intro p e s m below meth c T C P
  have sz_b : b ∈ [b] ∨ h0.size ≤ b := Or.inl (by simp)
  refine k_gets (pc' := 3) C P (C.w 84 rfl) Via.refl SA d18_0 rfl ?_
  intro T17 P17
  refine k_ifY (pc' := 28) C P17 d18_3 k_10 (by decide) (by decide) ?_
  refine k_iloadN (pc' := 29) C P17 d18_28 rfl rfl ?_
  refine k_iconst (z := (1 : Int32)) (pc' := 30) C P17 d18_29 rfl rfl ?_
  refine k_ishl (pc' := 31) C P17 d18_30 rfl ?_
  rw [own_shl_2]
  refine k_istoreN (l' := #[.val (.ref b), .val (.int (4 : Int32)), .val (.int x)]) (pc' := 32) C P17 d18_31 rfl rfl ?_
  refine k_aloadN (pc' := 33) C P17 d18_32 rfl rfl rfl ?_
  refine k_iloadN (pc' := 34) C P17 d18_33 rfl rfl ?_
  refine k_iinc (z := (5 : Int32)) (l' := #[.val (.ref b), .val (.int (5 : Int32)), .val (.int x)]) (pc' := 37) C P17 d18_34 rfl rfl rfl rfl ?_
  refine k_iloadN (pc' := 38) C P17 d18_37 rfl rfl ?_
  refine k_gets (pc' := 41) C P17 (C.w 85 rfl) Via.refl SH d18_38 rfl ?_
  intro T18 P18
  refine k_ishr (pc' := 42) C P18 d18_41 rfl ?_
  refine k_i2b (pc' := 43) C P18 d18_42 rfl ?_
  refine k_bastore (J := 4) (g' := (fun j => Value.int (if j = 4 then (own_lo x) else f j))) (pc' := 44) C P18 V d18_43 rfl (by omega) (fun j _ => own_pj j 4 (own_nlo x)) ge_b sz_b rfl ?_
  intro T19 h19 P19 W19 V19
  have f19_S__assertionsDisabled := Sta.wr W19 SA
  have f19_S_HI_BYTE_SHIFT := Sta.wr W19 SH
  have f19_S_LO_BYTE_SHIFT := Sta.wr W19 SL
  refine k_aloadN (pc' := 45) C P19 d18_44 rfl rfl rfl ?_
  refine k_iloadN (pc' := 46) C P19 d18_45 rfl rfl ?_
  refine k_iloadN (pc' := 47) C P19 d18_46 rfl rfl ?_
  refine k_gets (pc' := 50) C P19 (C.w 86 rfl) Via.refl f19_S_LO_BYTE_SHIFT d18_47 rfl ?_
  intro T20 P20
  refine k_ishr (pc' := 51) C P20 d18_50 rfl ?_
  refine k_i2b (pc' := 52) C P20 d18_51 rfl ?_
  refine k_bastore (J := 5) (g' := (fun j => Value.int (if j = 4 then (own_lo x) else if j = 5 then (own_hi x) else f j))) (pc' := 53) C P20 V19 d18_52 rfl hN (fun j _ => own_pk2 j 4 f (own_nhi x)) ge_b sz_b rfl ?_
  intro T21 h21 P21 W21 V21
  have f21_S__assertionsDisabled := Sta.wr W21 f19_S__assertionsDisabled
  have f21_S_HI_BYTE_SHIFT := Sta.wr W21 f19_S_HI_BYTE_SHIFT
  have f21_S_LO_BYTE_SHIFT := Sta.wr W21 f19_S_LO_BYTE_SHIFT
  exact k_retV C P21 d18_53 (by decide) (by decide) ⟨rfl, V21⟩
theorem ef_rmGC2 (m : MethodId) (x0 : Addr) (x1 : Int32) : entryFrame m #[(.ref x0), (.int x1)] 2 = mkF m 0 #[.val (.ref x0), .val (.int x1)] [] := by first | (simp [entryFrame, mkF, argsToLocals, Value.category]; done) | rfl
set_option maxRecDepth 65536 in
set_option maxHeartbeats 40000000 in
theorem rmGC2 (l : Launch) (Z : State) (a0 : Array Value) (hw : ∀ d ∈ tables_1, d.before a0 Z = true) (h0 : Heap) (n0 : Nat) (Z0 : n0 ≤ h0.size) (b : Addr) (kb : ClassId) (N : Nat) (hN : 5 < N) (f : Nat → Int32) (x : Int32) (hx : own_ch x) (e0 : f 4 = (own_lo x)) (e1 : f 5 = (own_hi x)) (SA : Sta Z h0 "java/lang/StringUTF16" "$assertionsDisabled" "Z" (.int 1)) (SH : Sta Z h0 "java/lang/StringUTF16" "HI_BYTE_SHIFT" "I" (.int 0)) (SL : Sta Z h0 "java/lang/StringUTF16" "LO_BYTE_SHIFT" "I" (.int 8)) (V : KVA Z h0 b kb .byte N (fun j => .int (f j))) :
    KCt false l (⟨"java/lang/StringUTF16", "getChar", "([BI)C"⟩ : MethodName) jdk_52_method_5_code 2 (some .char) ({ frames := 0, cells := 0, slots := 0, locals := 0 } : Room) Z n0 h0 #[(.ref b), (.int (2 : Int32))] [] (fun v h => v = some (.int x) ∧ h0 = h) := by
  refine k_enter (tbl := tables_1) (a0 := a0) (Ls := #[.val (.ref b), .val (.int (2 : Int32))]) (plainFor_of_name pn_19) hw Z0 (fun m => ef_rmGC2 m b (2 : Int32)) ?_
  intro p e s m below meth c T C P
  refine k_gets (pc' := 3) C P (C.w 84 rfl) Via.refl SA d19_0 rfl ?_
  intro T22 P22
  refine k_ifY (pc' := 28) C P22 d19_3 k_10 (by decide) (by decide) ?_
  refine k_iloadN (pc' := 29) C P22 d19_28 rfl rfl ?_
  refine k_iconst (z := (1 : Int32)) (pc' := 30) C P22 d19_29 rfl rfl ?_
  refine k_ishl (pc' := 31) C P22 d19_30 rfl ?_
  rw [own_shl_2]
  refine k_istoreN (l' := #[.val (.ref b), .val (.int (4 : Int32))]) (pc' := 32) C P22 d19_31 rfl rfl ?_
  refine k_aloadN (pc' := 33) C P22 d19_32 rfl rfl rfl ?_
  refine k_iloadN (pc' := 34) C P22 d19_33 rfl rfl ?_
  refine k_iinc (z := (5 : Int32)) (l' := #[.val (.ref b), .val (.int (5 : Int32))]) (pc' := 37) C P22 d19_34 rfl rfl rfl rfl ?_
  refine k_baload (J := 4) (v := (.int (own_lo x))) (pc' := 38) C P22 V d19_37 rfl (by omega) (congrArg Value.int e0) rfl ?_
  refine k_sipush (z := (255 : Int32)) (pc' := 41) C P22 d19_38 rfl rfl ?_
  refine k_iand (pc' := 42) C P22 d19_41 rfl ?_
  refine k_gets (pc' := 45) C P22 (C.w 85 rfl) Via.refl SH d19_42 rfl ?_
  intro T23 P23
  refine k_ishl (pc' := 46) C P23 d19_45 rfl ?_
  refine k_aloadN (pc' := 47) C P23 d19_46 rfl rfl rfl ?_
  refine k_iloadN (pc' := 48) C P23 d19_47 rfl rfl ?_
  refine k_baload (J := 5) (v := (.int (own_hi x))) (pc' := 49) C P23 V d19_48 rfl hN (congrArg Value.int e1) rfl ?_
  refine k_sipush (z := (255 : Int32)) (pc' := 52) C P23 d19_49 rfl rfl ?_
  refine k_iand (pc' := 53) C P23 d19_52 rfl ?_
  refine k_gets (pc' := 56) C P23 (C.w 86 rfl) Via.refl SL d19_53 rfl ?_
  intro T24 P24
  refine k_ishl (pc' := 57) C P24 d19_56 rfl ?_
  refine k_ior (pc' := 58) C P24 d19_57 rfl ?_
  refine k_i2c (pc' := 59) C P24 d19_58 rfl ?_
  exact k_retZ (z' := x) C P24 (by simp) d19_59 (own_get hx) (by decide) (by decide) ⟨rfl, rfl⟩
theorem pn_17 : plainName "java/lang/StringUTF16" = true := by first | (simp [plainName, overriddenIn]; done) | decide +kernel
theorem ef_rmNL1 (m : MethodId) (x0 : Int32) : entryFrame m #[(.int x0)] 1 = mkF m 0 #[.val (.int x0)] [] := by first | (simp [entryFrame, mkF, argsToLocals, Value.category]; done) | rfl
set_option maxRecDepth 65536 in
set_option maxHeartbeats 40000000 in
theorem rmNL1 (l : Launch) (Z : State) (a0 : Array Value) (hw : ∀ d ∈ tables_1, d.before a0 Z = true) (h0 : Heap) (n0 : Nat) (Z0 : n0 ≤ h0.size)  :
    KCt false l (⟨"java/lang/StringUTF16", "newBytesLength", "(I)I"⟩ : MethodName) jdk_52_method_3_code 1 (some .int) ({ frames := 0, cells := 0, slots := 0, locals := 0 } : Room) Z n0 h0 #[(.int (1 : Int32))] [] (fun v h => v = some (.int 2) ∧ h0 = h) := by
  refine k_enter (tbl := tables_1) (a0 := a0) (Ls := #[.val (.int (1 : Int32))]) (plainFor_of_name pn_17) hw Z0 (fun m => ef_rmNL1 m (1 : Int32)) ?_
  intro p e s m below meth c T C P
  refine k_iloadN (pc' := 1) C P d17_0 rfl rfl ?_
  refine k_ifY (pc' := 12) C P d17_1 (show ¬ (1 : Int32) < (0 : Int32) by decide) (by decide) (by decide) ?_
  refine k_iloadN (pc' := 13) C P d17_12 rfl rfl ?_
  refine k_ldcI (pc' := 15) C P (C.w 80 rfl) d17_13 rfl ?_
  refine k_icY (pc' := 55) C P d17_15 (show (1 : Int32) < (1073741823 : Int32) by decide) (by decide) (by decide) ?_
  refine k_iloadN (pc' := 56) C P d17_55 rfl rfl ?_
  refine k_iconst (z := (1 : Int32)) (pc' := 57) C P d17_56 rfl rfl ?_
  refine k_ishl (pc' := 58) C P d17_57 rfl ?_
  exact k_retI C P d17_58 (by decide) (by decide) ⟨by rw [own_shl_1], rfl⟩
theorem pn_16 : plainName "java/lang/StringUTF16" = true := by first | (simp [plainName, overriddenIn]; done) | decide +kernel
theorem ef_rmNF1 (m : MethodId) (x0 : Int32) : entryFrame m #[(.int x0)] 1 = mkF m 0 #[.val (.int x0)] [] := by first | (simp [entryFrame, mkF, argsToLocals, Value.category]; done) | rfl
set_option maxRecDepth 65536 in
set_option maxHeartbeats 40000000 in
theorem rmNF1 (l : Launch) (Z : State) (a0 : Array Value) (hw : ∀ d ∈ tables_1, d.before a0 Z = true) (h0 : Heap) (n0 : Nat) (Z0 : n0 ≤ h0.size)  :
    KCt false l (⟨"java/lang/StringUTF16", "newBytesFor", "(I)[B"⟩ : MethodName) jdk_52_method_2_code 1 (some (.array .byte)) ({ frames := 1, cells := 1, slots := 6, locals := 13 } : Room) Z n0 h0 #[(.int (1 : Int32))] [] (fun v h => ∃ (b : Addr) (kb : ClassId), v = some (.ref b) ∧ n0 ≤ b ∧ h0.size ≤ b ∧ KVA Z h b kb .byte 2 (fun _ => .int 0)) := by
  refine k_enter (tbl := tables_1) (a0 := a0) (Ls := #[.val (.int (1 : Int32))]) (plainFor_of_name pn_16) hw Z0 (fun m => ef_rmNF1 m (1 : Int32)) ?_
  intro p e s m below meth c T C P
  refine k_iloadN (pc' := 1) C P d16_0 rfl rfl ?_
  refine k_callT (pc' := 4) (cells' := 0) (slots' := 0) (W := 0) C P (C.w 77 rfl) (C.w 78 rfl) (C.w 79 rfl) (C.w 41 rfl) (by decide) (rmNL1 l Z a0 hw _ n0 P.size) [(.int (1 : Int32))] [] rfl (lenOf pd_0 rfl) rfl (Nat.le_of_eq rfl) d16_1 rfl (by decide) (by decide) rfl rfl (by decide) (by decide) all0 rfl ?_
  intro T25 h25 v25 P25 K25 Q25
  obtain ⟨e25, g25⟩ := Q25
  subst g25
  subst e25
  show KGo p e below _ T25 m 4 #[.val (.int (1 : Int32))] [(.int (2 : Int32))]
  refine k_newp (pc' := 6) (cells' := 1) (slots' := 6) (N := 2) (cap := 6) C P25 (C.w 17 rfl) d16_4 rfl (by decide) (by decide) rfl rfl (by decide) (by decide) rfl ?_
  intro T26 h26 b26 k26 P26 hs26 ge_b26 sz_b26 E26 V26
  exact k_retA C P26 d16_6 rfl rfl (by decide) (by decide) ⟨_, _, rfl, ge_b26, sz_b26, V26⟩
theorem pn_15 : plainName "java/lang/StringUTF16" = true := by first | (simp [plainName, overriddenIn]; done) | decide +kernel
theorem ef_rmTB1 (m : MethodId) (x0 : Addr) (x1 : Int32) (x2 : Int32) : entryFrame m #[(.ref x0), (.int x1), (.int x2)] 5 = mkF m 0 #[.val (.ref x0), .val (.int x1), .val (.int x2), .unset, .unset] [] := by first | (simp [entryFrame, mkF, argsToLocals, Value.category]; done) | rfl
set_option maxRecDepth 65536 in
set_option maxHeartbeats 40000000 in
theorem rmTB1 (l : Launch) (Z : State) (a0 : Array Value) (hw : ∀ d ∈ tables_1, d.before a0 Z = true) (h0 : Heap) (n0 : Nat) (Z0 : n0 ≤ h0.size) (c0 : Int32) (ca : Addr) (kc : ClassId) (VC : KVA Z h0 ca kc .char 1 (fun j => Value.int (c0))) (SA : Sta Z h0 "java/lang/StringUTF16" "$assertionsDisabled" "Z" (.int 1)) (SH : Sta Z h0 "java/lang/StringUTF16" "HI_BYTE_SHIFT" "I" (.int 0)) (SL : Sta Z h0 "java/lang/StringUTF16" "LO_BYTE_SHIFT" "I" (.int 8)) :
    KCt false l (⟨"java/lang/StringUTF16", "toBytes", "([CII)[B"⟩ : MethodName) jdk_52_method_14_code 5 (some (.array .byte)) ({ frames := 2, cells := 1, slots := 6, locals := 30 } : Room) Z n0 h0 #[(.ref ca), (.int (0 : Int32)), (.int (1 : Int32))] [] (fun v h => ∃ (b : Addr) (kb : ClassId), v = some (.ref b) ∧ KVA Z h b kb .byte 2 (fun j => .int (if j = 0 then (own_lo c0) else if j = 1 then (own_hi c0) else (0 : Int32)))) := by
  refine k_enter (tbl := tables_1) (a0 := a0) (Ls := #[.val (.ref ca), .val (.int (0 : Int32)), .val (.int (1 : Int32)), .unset, .unset]) (plainFor_of_name pn_15) hw Z0 (fun m => ef_rmTB1 m ca (0 : Int32) (1 : Int32)) ?_
  intro p e s m below meth c T C P
  refine k_iloadN (pc' := 1) C P d15_0 rfl rfl ?_
  refine k_callT (pc' := 4) (cells' := 1) (slots' := 6) (W := 0) C P (C.w 74 rfl) (C.w 75 rfl) (C.w 76 rfl) (C.w 41 rfl) (by decide) (rmNF1 l Z a0 hw _ n0 P.size) [(.int (1 : Int32))] [] rfl (lenOf pd_1 rfl) rfl (Nat.le_of_eq rfl) d15_1 rfl (by decide) (by decide) rfl rfl (by decide) (by decide) all0 rfl ?_
  intro T27 h27 v27 P27 K27 Q27
  obtain ⟨b, kb, rfl, gb27, zb27, V27_⟩ := Q27
  have f27_ca := VC.keep K27 nin0
  have f27_S__assertionsDisabled := k_staKeep SA K27 k_ns0
  have f27_S_HI_BYTE_SHIFT := k_staKeep SH K27 k_ns0
  have f27_S_LO_BYTE_SHIFT := k_staKeep SL K27 k_ns0
  show KGo p e below _ T27 m 4 #[.val (.ref ca), .val (.int (0 : Int32)), .val (.int (1 : Int32)), .unset, .unset] [(.ref b)]
  refine k_astoreN (l' := #[.val (.ref ca), .val (.int (0 : Int32)), .val (.int (1 : Int32)), .val (.ref b), .unset]) (pc' := 5) C P27 d15_4 rfl rfl rfl ?_
  refine k_iconst (z := (0 : Int32)) (pc' := 6) C P27 d15_5 rfl rfl ?_
  refine k_istore (l' := #[.val (.ref ca), .val (.int (0 : Int32)), .val (.int (1 : Int32)), .val (.ref b), .val (.int (0 : Int32))]) (pc' := 8) C P27 d15_6 rfl rfl ?_
  refine k_iload (pc' := 10) C P27 d15_8 rfl rfl ?_
  refine k_iloadN (pc' := 11) C P27 d15_10 rfl rfl ?_
  refine k_icN (pc' := 14) C P27 d15_11 (show (0 : Int32) < (1 : Int32) by decide) rfl ?_
  refine k_aloadN (pc' := 15) C P27 d15_14 rfl rfl rfl ?_
  refine k_iload (pc' := 17) C P27 d15_15 rfl rfl ?_
  refine k_aloadN (pc' := 18) C P27 d15_17 rfl rfl rfl ?_
  refine k_iloadN (pc' := 19) C P27 d15_18 rfl rfl ?_
  refine k_caload (J := 0) (v := (.int c0)) (pc' := 20) C P27 f27_ca d15_19 rfl (by decide) rfl rfl ?_
  refine k_callT (pc' := 23) (cells' := 1) (slots' := 6) (W := 0) C P27 (C.w 81 rfl) (C.w 82 rfl) (C.w 83 rfl) (C.w 41 rfl) (by decide) (rmPC0 l Z a0 hw _ n0 P27.size b kb 2 (by decide) (fun j => (0 : Int32)) c0 f27_S__assertionsDisabled f27_S_HI_BYTE_SHIFT f27_S_LO_BYTE_SHIFT gb27 V27_) [(.ref b), (.int (0 : Int32)), (.int c0)] [] rfl (lenOf pd_2 rfl) rfl (Nat.le_of_eq rfl) d15_20 rfl (by decide) (by decide) rfl rfl (by decide) (by decide) (allS (Or.inr (Nat.le_trans P.kept.1 zb27)) all0) rfl ?_
  intro T28 h28 v28 P28 K28 Q28
  obtain ⟨rfl, V28_⟩ := Q28
  have f28_ca := f27_ca.keep K28 (ninS (KVA.neT f27_ca V27_ nofun) nin0)
  have f28_S__assertionsDisabled := k_staKeep f27_S__assertionsDisabled K28 (k_nsS V27_.ns k_ns0)
  have f28_S_HI_BYTE_SHIFT := k_staKeep f27_S_HI_BYTE_SHIFT K28 (k_nsS V27_.ns k_ns0)
  have f28_S_LO_BYTE_SHIFT := k_staKeep f27_S_LO_BYTE_SHIFT K28 (k_nsS V27_.ns k_ns0)
  show KGo p e below _ T28 m 23 #[.val (.ref ca), .val (.int (0 : Int32)), .val (.int (1 : Int32)), .val (.ref b), .val (.int (0 : Int32))] []
  refine k_iinc (z := (1 : Int32)) (l' := #[.val (.ref ca), .val (.int (1 : Int32)), .val (.int (1 : Int32)), .val (.ref b), .val (.int (0 : Int32))]) (pc' := 26) C P28 d15_23 rfl rfl rfl rfl ?_
  refine k_iinc (z := (1 : Int32)) (l' := #[.val (.ref ca), .val (.int (1 : Int32)), .val (.int (1 : Int32)), .val (.ref b), .val (.int (1 : Int32))]) (pc' := 29) C P28 d15_26 rfl rfl rfl rfl ?_
  refine k_goto (pc' := 8) C P28 d15_29 (by decide) (by decide) ?_
  refine k_iload (pc' := 10) C P28 d15_8 rfl rfl ?_
  refine k_iloadN (pc' := 11) C P28 d15_10 rfl rfl ?_
  refine k_icY (pc' := 32) C P28 d15_11 (show ¬ (1 : Int32) < (1 : Int32) by decide) (by decide) (by decide) ?_
  refine k_aloadN (pc' := 33) C P28 d15_32 rfl rfl rfl ?_
  exact k_retA C P28 d15_33 rfl rfl (by decide) (by decide) ⟨_, _, rfl, V28_.congr (fun j hj => by match j, hj with | 0, _ => rfl | 1, _ => rfl)⟩
theorem ef_rmNL2 (m : MethodId) (x0 : Int32) : entryFrame m #[(.int x0)] 1 = mkF m 0 #[.val (.int x0)] [] := by first | (simp [entryFrame, mkF, argsToLocals, Value.category]; done) | rfl
set_option maxRecDepth 65536 in
set_option maxHeartbeats 40000000 in
theorem rmNL2 (l : Launch) (Z : State) (a0 : Array Value) (hw : ∀ d ∈ tables_1, d.before a0 Z = true) (h0 : Heap) (n0 : Nat) (Z0 : n0 ≤ h0.size)  :
    KCt false l (⟨"java/lang/StringUTF16", "newBytesLength", "(I)I"⟩ : MethodName) jdk_52_method_3_code 1 (some .int) ({ frames := 0, cells := 0, slots := 0, locals := 0 } : Room) Z n0 h0 #[(.int (2 : Int32))] [] (fun v h => v = some (.int 4) ∧ h0 = h) := by
  refine k_enter (tbl := tables_1) (a0 := a0) (Ls := #[.val (.int (2 : Int32))]) (plainFor_of_name pn_17) hw Z0 (fun m => ef_rmNL2 m (2 : Int32)) ?_
  intro p e s m below meth c T C P
  refine k_iloadN (pc' := 1) C P d17_0 rfl rfl ?_
  refine k_ifY (pc' := 12) C P d17_1 (show ¬ (2 : Int32) < (0 : Int32) by decide) (by decide) (by decide) ?_
  refine k_iloadN (pc' := 13) C P d17_12 rfl rfl ?_
  refine k_ldcI (pc' := 15) C P (C.w 80 rfl) d17_13 rfl ?_
  refine k_icY (pc' := 55) C P d17_15 (show (2 : Int32) < (1073741823 : Int32) by decide) (by decide) (by decide) ?_
  refine k_iloadN (pc' := 56) C P d17_55 rfl rfl ?_
  refine k_iconst (z := (1 : Int32)) (pc' := 57) C P d17_56 rfl rfl ?_
  refine k_ishl (pc' := 58) C P d17_57 rfl ?_
  exact k_retI C P d17_58 (by decide) (by decide) ⟨by rw [own_shl_2], rfl⟩
theorem ef_rmNF2 (m : MethodId) (x0 : Int32) : entryFrame m #[(.int x0)] 1 = mkF m 0 #[.val (.int x0)] [] := by first | (simp [entryFrame, mkF, argsToLocals, Value.category]; done) | rfl
set_option maxRecDepth 65536 in
set_option maxHeartbeats 40000000 in
theorem rmNF2 (l : Launch) (Z : State) (a0 : Array Value) (hw : ∀ d ∈ tables_1, d.before a0 Z = true) (h0 : Heap) (n0 : Nat) (Z0 : n0 ≤ h0.size)  :
    KCt false l (⟨"java/lang/StringUTF16", "newBytesFor", "(I)[B"⟩ : MethodName) jdk_52_method_2_code 1 (some (.array .byte)) ({ frames := 1, cells := 1, slots := 6, locals := 13 } : Room) Z n0 h0 #[(.int (2 : Int32))] [] (fun v h => ∃ (b : Addr) (kb : ClassId), v = some (.ref b) ∧ n0 ≤ b ∧ h0.size ≤ b ∧ KVA Z h b kb .byte 4 (fun _ => .int 0)) := by
  refine k_enter (tbl := tables_1) (a0 := a0) (Ls := #[.val (.int (2 : Int32))]) (plainFor_of_name pn_16) hw Z0 (fun m => ef_rmNF2 m (2 : Int32)) ?_
  intro p e s m below meth c T C P
  refine k_iloadN (pc' := 1) C P d16_0 rfl rfl ?_
  refine k_callT (pc' := 4) (cells' := 0) (slots' := 0) (W := 0) C P (C.w 77 rfl) (C.w 78 rfl) (C.w 79 rfl) (C.w 41 rfl) (by decide) (rmNL2 l Z a0 hw _ n0 P.size) [(.int (2 : Int32))] [] rfl (lenOf pd_0 rfl) rfl (Nat.le_of_eq rfl) d16_1 rfl (by decide) (by decide) rfl rfl (by decide) (by decide) all0 rfl ?_
  intro T29 h29 v29 P29 K29 Q29
  obtain ⟨e29, g29⟩ := Q29
  subst g29
  subst e29
  show KGo p e below _ T29 m 4 #[.val (.int (2 : Int32))] [(.int (4 : Int32))]
  refine k_newp (pc' := 6) (cells' := 1) (slots' := 6) (N := 4) (cap := 6) C P29 (C.w 17 rfl) d16_4 rfl (by decide) (by decide) rfl rfl (by decide) (by decide) rfl ?_
  intro T30 h30 b30 k30 P30 hs30 ge_b30 sz_b30 E30 V30
  exact k_retA C P30 d16_6 rfl rfl (by decide) (by decide) ⟨_, _, rfl, ge_b30, sz_b30, V30⟩
theorem ef_rmTB2 (m : MethodId) (x0 : Addr) (x1 : Int32) (x2 : Int32) : entryFrame m #[(.ref x0), (.int x1), (.int x2)] 5 = mkF m 0 #[.val (.ref x0), .val (.int x1), .val (.int x2), .unset, .unset] [] := by first | (simp [entryFrame, mkF, argsToLocals, Value.category]; done) | rfl
set_option maxRecDepth 65536 in
set_option maxHeartbeats 40000000 in
theorem rmTB2 (l : Launch) (Z : State) (a0 : Array Value) (hw : ∀ d ∈ tables_1, d.before a0 Z = true) (h0 : Heap) (n0 : Nat) (Z0 : n0 ≤ h0.size) (c0 c1 : Int32) (ca : Addr) (kc : ClassId) (VC : KVA Z h0 ca kc .char 2 (fun j => Value.int (if j = 0 then c0 else c1))) (SA : Sta Z h0 "java/lang/StringUTF16" "$assertionsDisabled" "Z" (.int 1)) (SH : Sta Z h0 "java/lang/StringUTF16" "HI_BYTE_SHIFT" "I" (.int 0)) (SL : Sta Z h0 "java/lang/StringUTF16" "LO_BYTE_SHIFT" "I" (.int 8)) :
    KCt false l (⟨"java/lang/StringUTF16", "toBytes", "([CII)[B"⟩ : MethodName) jdk_52_method_14_code 5 (some (.array .byte)) ({ frames := 2, cells := 1, slots := 6, locals := 30 } : Room) Z n0 h0 #[(.ref ca), (.int (0 : Int32)), (.int (2 : Int32))] [] (fun v h => ∃ (b : Addr) (kb : ClassId), v = some (.ref b) ∧ KVA Z h b kb .byte 4 (fun j => .int (if j = 2 then (own_lo c1) else if j = 3 then (own_hi c1) else if j = 0 then (own_lo c0) else if j = 1 then (own_hi c0) else (0 : Int32)))) := by
  refine k_enter (tbl := tables_1) (a0 := a0) (Ls := #[.val (.ref ca), .val (.int (0 : Int32)), .val (.int (2 : Int32)), .unset, .unset]) (plainFor_of_name pn_15) hw Z0 (fun m => ef_rmTB2 m ca (0 : Int32) (2 : Int32)) ?_
  intro p e s m below meth c T C P
  refine k_iloadN (pc' := 1) C P d15_0 rfl rfl ?_
  refine k_callT (pc' := 4) (cells' := 1) (slots' := 6) (W := 0) C P (C.w 74 rfl) (C.w 75 rfl) (C.w 76 rfl) (C.w 41 rfl) (by decide) (rmNF2 l Z a0 hw _ n0 P.size) [(.int (2 : Int32))] [] rfl (lenOf pd_1 rfl) rfl (Nat.le_of_eq rfl) d15_1 rfl (by decide) (by decide) rfl rfl (by decide) (by decide) all0 rfl ?_
  intro T31 h31 v31 P31 K31 Q31
  obtain ⟨b, kb, rfl, gb31, zb31, V31_⟩ := Q31
  have f31_ca := VC.keep K31 nin0
  have f31_S__assertionsDisabled := k_staKeep SA K31 k_ns0
  have f31_S_HI_BYTE_SHIFT := k_staKeep SH K31 k_ns0
  have f31_S_LO_BYTE_SHIFT := k_staKeep SL K31 k_ns0
  show KGo p e below _ T31 m 4 #[.val (.ref ca), .val (.int (0 : Int32)), .val (.int (2 : Int32)), .unset, .unset] [(.ref b)]
  refine k_astoreN (l' := #[.val (.ref ca), .val (.int (0 : Int32)), .val (.int (2 : Int32)), .val (.ref b), .unset]) (pc' := 5) C P31 d15_4 rfl rfl rfl ?_
  refine k_iconst (z := (0 : Int32)) (pc' := 6) C P31 d15_5 rfl rfl ?_
  refine k_istore (l' := #[.val (.ref ca), .val (.int (0 : Int32)), .val (.int (2 : Int32)), .val (.ref b), .val (.int (0 : Int32))]) (pc' := 8) C P31 d15_6 rfl rfl ?_
  refine k_iload (pc' := 10) C P31 d15_8 rfl rfl ?_
  refine k_iloadN (pc' := 11) C P31 d15_10 rfl rfl ?_
  refine k_icN (pc' := 14) C P31 d15_11 (show (0 : Int32) < (2 : Int32) by decide) rfl ?_
  refine k_aloadN (pc' := 15) C P31 d15_14 rfl rfl rfl ?_
  refine k_iload (pc' := 17) C P31 d15_15 rfl rfl ?_
  refine k_aloadN (pc' := 18) C P31 d15_17 rfl rfl rfl ?_
  refine k_iloadN (pc' := 19) C P31 d15_18 rfl rfl ?_
  refine k_caload (J := 0) (v := (.int c0)) (pc' := 20) C P31 f31_ca d15_19 rfl (by decide) rfl rfl ?_
  refine k_callT (pc' := 23) (cells' := 1) (slots' := 6) (W := 0) C P31 (C.w 81 rfl) (C.w 82 rfl) (C.w 83 rfl) (C.w 41 rfl) (by decide) (rmPC0 l Z a0 hw _ n0 P31.size b kb 4 (by decide) (fun j => (0 : Int32)) c0 f31_S__assertionsDisabled f31_S_HI_BYTE_SHIFT f31_S_LO_BYTE_SHIFT gb31 V31_) [(.ref b), (.int (0 : Int32)), (.int c0)] [] rfl (lenOf pd_2 rfl) rfl (Nat.le_of_eq rfl) d15_20 rfl (by decide) (by decide) rfl rfl (by decide) (by decide) (allS (Or.inr (Nat.le_trans P.kept.1 zb31)) all0) rfl ?_
  intro T32 h32 v32 P32 K32 Q32
  obtain ⟨rfl, V32_⟩ := Q32
  have f32_ca := f31_ca.keep K32 (ninS (KVA.neT f31_ca V31_ nofun) nin0)
  have f32_S__assertionsDisabled := k_staKeep f31_S__assertionsDisabled K32 (k_nsS V31_.ns k_ns0)
  have f32_S_HI_BYTE_SHIFT := k_staKeep f31_S_HI_BYTE_SHIFT K32 (k_nsS V31_.ns k_ns0)
  have f32_S_LO_BYTE_SHIFT := k_staKeep f31_S_LO_BYTE_SHIFT K32 (k_nsS V31_.ns k_ns0)
  show KGo p e below _ T32 m 23 #[.val (.ref ca), .val (.int (0 : Int32)), .val (.int (2 : Int32)), .val (.ref b), .val (.int (0 : Int32))] []
  refine k_iinc (z := (1 : Int32)) (l' := #[.val (.ref ca), .val (.int (1 : Int32)), .val (.int (2 : Int32)), .val (.ref b), .val (.int (0 : Int32))]) (pc' := 26) C P32 d15_23 rfl rfl rfl rfl ?_
  refine k_iinc (z := (1 : Int32)) (l' := #[.val (.ref ca), .val (.int (1 : Int32)), .val (.int (2 : Int32)), .val (.ref b), .val (.int (1 : Int32))]) (pc' := 29) C P32 d15_26 rfl rfl rfl rfl ?_
  refine k_goto (pc' := 8) C P32 d15_29 (by decide) (by decide) ?_
  refine k_iload (pc' := 10) C P32 d15_8 rfl rfl ?_
  refine k_iloadN (pc' := 11) C P32 d15_10 rfl rfl ?_
  refine k_icN (pc' := 14) C P32 d15_11 (show (1 : Int32) < (2 : Int32) by decide) rfl ?_
  refine k_aloadN (pc' := 15) C P32 d15_14 rfl rfl rfl ?_
  refine k_iload (pc' := 17) C P32 d15_15 rfl rfl ?_
  refine k_aloadN (pc' := 18) C P32 d15_17 rfl rfl rfl ?_
  refine k_iloadN (pc' := 19) C P32 d15_18 rfl rfl ?_
  refine k_caload (J := 1) (v := (.int c1)) (pc' := 20) C P32 f32_ca d15_19 rfl (by decide) rfl rfl ?_
  refine k_callT (pc' := 23) (cells' := 1) (slots' := 6) (W := 0) C P32 (C.w 81 rfl) (C.w 82 rfl) (C.w 83 rfl) (C.w 41 rfl) (by decide) (rmPC1 l Z a0 hw _ n0 P32.size b kb 4 (by decide) (fun j => if j = 0 then (own_lo c0) else if j = 1 then (own_hi c0) else (0 : Int32)) c1 f32_S__assertionsDisabled f32_S_HI_BYTE_SHIFT f32_S_LO_BYTE_SHIFT gb31 V32_) [(.ref b), (.int (1 : Int32)), (.int c1)] [] rfl (lenOf pd_2 rfl) rfl (Nat.le_of_eq rfl) d15_20 rfl (by decide) (by decide) rfl rfl (by decide) (by decide) (allS (Or.inr (Nat.le_trans P.kept.1 zb31)) all0) rfl ?_
  intro T33 h33 v33 P33 K33 Q33
  obtain ⟨rfl, V33_⟩ := Q33
  have f33_ca := f32_ca.keep K33 (ninS (KVA.neT f32_ca V32_ nofun) nin0)
  have f33_S__assertionsDisabled := k_staKeep f32_S__assertionsDisabled K33 (k_nsS V32_.ns k_ns0)
  have f33_S_HI_BYTE_SHIFT := k_staKeep f32_S_HI_BYTE_SHIFT K33 (k_nsS V32_.ns k_ns0)
  have f33_S_LO_BYTE_SHIFT := k_staKeep f32_S_LO_BYTE_SHIFT K33 (k_nsS V32_.ns k_ns0)
  show KGo p e below _ T33 m 23 #[.val (.ref ca), .val (.int (1 : Int32)), .val (.int (2 : Int32)), .val (.ref b), .val (.int (1 : Int32))] []
  refine k_iinc (z := (2 : Int32)) (l' := #[.val (.ref ca), .val (.int (2 : Int32)), .val (.int (2 : Int32)), .val (.ref b), .val (.int (1 : Int32))]) (pc' := 26) C P33 d15_23 rfl rfl rfl rfl ?_
  refine k_iinc (z := (2 : Int32)) (l' := #[.val (.ref ca), .val (.int (2 : Int32)), .val (.int (2 : Int32)), .val (.ref b), .val (.int (2 : Int32))]) (pc' := 29) C P33 d15_26 rfl rfl rfl rfl ?_
  refine k_goto (pc' := 8) C P33 d15_29 (by decide) (by decide) ?_
  refine k_iload (pc' := 10) C P33 d15_8 rfl rfl ?_
  refine k_iloadN (pc' := 11) C P33 d15_10 rfl rfl ?_
  refine k_icY (pc' := 32) C P33 d15_11 (show ¬ (2 : Int32) < (2 : Int32) by decide) (by decide) (by decide) ?_
  refine k_aloadN (pc' := 33) C P33 d15_32 rfl rfl rfl ?_
  exact k_retA C P33 d15_33 rfl rfl (by decide) (by decide) ⟨_, _, rfl, V33_.congr (fun j hj => by match j, hj with | 0, _ => rfl | 1, _ => rfl | 2, _ => rfl | 3, _ => rfl)⟩
theorem ef_rmNL3 (m : MethodId) (x0 : Int32) : entryFrame m #[(.int x0)] 1 = mkF m 0 #[.val (.int x0)] [] := by first | (simp [entryFrame, mkF, argsToLocals, Value.category]; done) | rfl
set_option maxRecDepth 65536 in
set_option maxHeartbeats 40000000 in
theorem rmNL3 (l : Launch) (Z : State) (a0 : Array Value) (hw : ∀ d ∈ tables_1, d.before a0 Z = true) (h0 : Heap) (n0 : Nat) (Z0 : n0 ≤ h0.size)  :
    KCt false l (⟨"java/lang/StringUTF16", "newBytesLength", "(I)I"⟩ : MethodName) jdk_52_method_3_code 1 (some .int) ({ frames := 0, cells := 0, slots := 0, locals := 0 } : Room) Z n0 h0 #[(.int (3 : Int32))] [] (fun v h => v = some (.int 6) ∧ h0 = h) := by
  refine k_enter (tbl := tables_1) (a0 := a0) (Ls := #[.val (.int (3 : Int32))]) (plainFor_of_name pn_17) hw Z0 (fun m => ef_rmNL3 m (3 : Int32)) ?_
  intro p e s m below meth c T C P
  refine k_iloadN (pc' := 1) C P d17_0 rfl rfl ?_
  refine k_ifY (pc' := 12) C P d17_1 (show ¬ (3 : Int32) < (0 : Int32) by decide) (by decide) (by decide) ?_
  refine k_iloadN (pc' := 13) C P d17_12 rfl rfl ?_
  refine k_ldcI (pc' := 15) C P (C.w 80 rfl) d17_13 rfl ?_
  refine k_icY (pc' := 55) C P d17_15 (show (3 : Int32) < (1073741823 : Int32) by decide) (by decide) (by decide) ?_
  refine k_iloadN (pc' := 56) C P d17_55 rfl rfl ?_
  refine k_iconst (z := (1 : Int32)) (pc' := 57) C P d17_56 rfl rfl ?_
  refine k_ishl (pc' := 58) C P d17_57 rfl ?_
  exact k_retI C P d17_58 (by decide) (by decide) ⟨by rw [own_shl_3], rfl⟩
theorem ef_rmNF3 (m : MethodId) (x0 : Int32) : entryFrame m #[(.int x0)] 1 = mkF m 0 #[.val (.int x0)] [] := by first | (simp [entryFrame, mkF, argsToLocals, Value.category]; done) | rfl
set_option maxRecDepth 65536 in
set_option maxHeartbeats 40000000 in
theorem rmNF3 (l : Launch) (Z : State) (a0 : Array Value) (hw : ∀ d ∈ tables_1, d.before a0 Z = true) (h0 : Heap) (n0 : Nat) (Z0 : n0 ≤ h0.size)  :
    KCt false l (⟨"java/lang/StringUTF16", "newBytesFor", "(I)[B"⟩ : MethodName) jdk_52_method_2_code 1 (some (.array .byte)) ({ frames := 1, cells := 1, slots := 6, locals := 13 } : Room) Z n0 h0 #[(.int (3 : Int32))] [] (fun v h => ∃ (b : Addr) (kb : ClassId), v = some (.ref b) ∧ n0 ≤ b ∧ h0.size ≤ b ∧ KVA Z h b kb .byte 6 (fun _ => .int 0)) := by
  refine k_enter (tbl := tables_1) (a0 := a0) (Ls := #[.val (.int (3 : Int32))]) (plainFor_of_name pn_16) hw Z0 (fun m => ef_rmNF3 m (3 : Int32)) ?_
  intro p e s m below meth c T C P
  refine k_iloadN (pc' := 1) C P d16_0 rfl rfl ?_
  refine k_callT (pc' := 4) (cells' := 0) (slots' := 0) (W := 0) C P (C.w 77 rfl) (C.w 78 rfl) (C.w 79 rfl) (C.w 41 rfl) (by decide) (rmNL3 l Z a0 hw _ n0 P.size) [(.int (3 : Int32))] [] rfl (lenOf pd_0 rfl) rfl (Nat.le_of_eq rfl) d16_1 rfl (by decide) (by decide) rfl rfl (by decide) (by decide) all0 rfl ?_
  intro T34 h34 v34 P34 K34 Q34
  obtain ⟨e34, g34⟩ := Q34
  subst g34
  subst e34
  show KGo p e below _ T34 m 4 #[.val (.int (3 : Int32))] [(.int (6 : Int32))]
  refine k_newp (pc' := 6) (cells' := 1) (slots' := 6) (N := 6) (cap := 6) C P34 (C.w 17 rfl) d16_4 rfl (by decide) (by decide) rfl rfl (by decide) (by decide) rfl ?_
  intro T35 h35 b35 k35 P35 hs35 ge_b35 sz_b35 E35 V35
  exact k_retA C P35 d16_6 rfl rfl (by decide) (by decide) ⟨_, _, rfl, ge_b35, sz_b35, V35⟩
theorem ef_rmTB3 (m : MethodId) (x0 : Addr) (x1 : Int32) (x2 : Int32) : entryFrame m #[(.ref x0), (.int x1), (.int x2)] 5 = mkF m 0 #[.val (.ref x0), .val (.int x1), .val (.int x2), .unset, .unset] [] := by first | (simp [entryFrame, mkF, argsToLocals, Value.category]; done) | rfl
set_option maxRecDepth 65536 in
set_option maxHeartbeats 40000000 in
theorem rmTB3 (l : Launch) (Z : State) (a0 : Array Value) (hw : ∀ d ∈ tables_1, d.before a0 Z = true) (h0 : Heap) (n0 : Nat) (Z0 : n0 ≤ h0.size) (c0 c1 c2 : Int32) (ca : Addr) (kc : ClassId) (VC : KVA Z h0 ca kc .char 3 (fun j => Value.int (if j = 0 then c0 else if j = 1 then c1 else c2))) (SA : Sta Z h0 "java/lang/StringUTF16" "$assertionsDisabled" "Z" (.int 1)) (SH : Sta Z h0 "java/lang/StringUTF16" "HI_BYTE_SHIFT" "I" (.int 0)) (SL : Sta Z h0 "java/lang/StringUTF16" "LO_BYTE_SHIFT" "I" (.int 8)) :
    KCt false l (⟨"java/lang/StringUTF16", "toBytes", "([CII)[B"⟩ : MethodName) jdk_52_method_14_code 5 (some (.array .byte)) ({ frames := 2, cells := 1, slots := 6, locals := 30 } : Room) Z n0 h0 #[(.ref ca), (.int (0 : Int32)), (.int (3 : Int32))] [] (fun v h => ∃ (b : Addr) (kb : ClassId), v = some (.ref b) ∧ KVA Z h b kb .byte 6 (fun j => .int (if j = 4 then (own_lo c2) else if j = 5 then (own_hi c2) else if j = 2 then (own_lo c1) else if j = 3 then (own_hi c1) else if j = 0 then (own_lo c0) else if j = 1 then (own_hi c0) else (0 : Int32)))) := by
  refine k_enter (tbl := tables_1) (a0 := a0) (Ls := #[.val (.ref ca), .val (.int (0 : Int32)), .val (.int (3 : Int32)), .unset, .unset]) (plainFor_of_name pn_15) hw Z0 (fun m => ef_rmTB3 m ca (0 : Int32) (3 : Int32)) ?_
  intro p e s m below meth c T C P
  refine k_iloadN (pc' := 1) C P d15_0 rfl rfl ?_
  refine k_callT (pc' := 4) (cells' := 1) (slots' := 6) (W := 0) C P (C.w 74 rfl) (C.w 75 rfl) (C.w 76 rfl) (C.w 41 rfl) (by decide) (rmNF3 l Z a0 hw _ n0 P.size) [(.int (3 : Int32))] [] rfl (lenOf pd_1 rfl) rfl (Nat.le_of_eq rfl) d15_1 rfl (by decide) (by decide) rfl rfl (by decide) (by decide) all0 rfl ?_
  intro T36 h36 v36 P36 K36 Q36
  obtain ⟨b, kb, rfl, gb36, zb36, V36_⟩ := Q36
  have f36_ca := VC.keep K36 nin0
  have f36_S__assertionsDisabled := k_staKeep SA K36 k_ns0
  have f36_S_HI_BYTE_SHIFT := k_staKeep SH K36 k_ns0
  have f36_S_LO_BYTE_SHIFT := k_staKeep SL K36 k_ns0
  show KGo p e below _ T36 m 4 #[.val (.ref ca), .val (.int (0 : Int32)), .val (.int (3 : Int32)), .unset, .unset] [(.ref b)]
  refine k_astoreN (l' := #[.val (.ref ca), .val (.int (0 : Int32)), .val (.int (3 : Int32)), .val (.ref b), .unset]) (pc' := 5) C P36 d15_4 rfl rfl rfl ?_
  refine k_iconst (z := (0 : Int32)) (pc' := 6) C P36 d15_5 rfl rfl ?_
  refine k_istore (l' := #[.val (.ref ca), .val (.int (0 : Int32)), .val (.int (3 : Int32)), .val (.ref b), .val (.int (0 : Int32))]) (pc' := 8) C P36 d15_6 rfl rfl ?_
  refine k_iload (pc' := 10) C P36 d15_8 rfl rfl ?_
  refine k_iloadN (pc' := 11) C P36 d15_10 rfl rfl ?_
  refine k_icN (pc' := 14) C P36 d15_11 (show (0 : Int32) < (3 : Int32) by decide) rfl ?_
  refine k_aloadN (pc' := 15) C P36 d15_14 rfl rfl rfl ?_
  refine k_iload (pc' := 17) C P36 d15_15 rfl rfl ?_
  refine k_aloadN (pc' := 18) C P36 d15_17 rfl rfl rfl ?_
  refine k_iloadN (pc' := 19) C P36 d15_18 rfl rfl ?_
  refine k_caload (J := 0) (v := (.int c0)) (pc' := 20) C P36 f36_ca d15_19 rfl (by decide) rfl rfl ?_
  refine k_callT (pc' := 23) (cells' := 1) (slots' := 6) (W := 0) C P36 (C.w 81 rfl) (C.w 82 rfl) (C.w 83 rfl) (C.w 41 rfl) (by decide) (rmPC0 l Z a0 hw _ n0 P36.size b kb 6 (by decide) (fun j => (0 : Int32)) c0 f36_S__assertionsDisabled f36_S_HI_BYTE_SHIFT f36_S_LO_BYTE_SHIFT gb36 V36_) [(.ref b), (.int (0 : Int32)), (.int c0)] [] rfl (lenOf pd_2 rfl) rfl (Nat.le_of_eq rfl) d15_20 rfl (by decide) (by decide) rfl rfl (by decide) (by decide) (allS (Or.inr (Nat.le_trans P.kept.1 zb36)) all0) rfl ?_
  intro T37 h37 v37 P37 K37 Q37
  obtain ⟨rfl, V37_⟩ := Q37
  have f37_ca := f36_ca.keep K37 (ninS (KVA.neT f36_ca V36_ nofun) nin0)
  have f37_S__assertionsDisabled := k_staKeep f36_S__assertionsDisabled K37 (k_nsS V36_.ns k_ns0)
  have f37_S_HI_BYTE_SHIFT := k_staKeep f36_S_HI_BYTE_SHIFT K37 (k_nsS V36_.ns k_ns0)
  have f37_S_LO_BYTE_SHIFT := k_staKeep f36_S_LO_BYTE_SHIFT K37 (k_nsS V36_.ns k_ns0)
  show KGo p e below _ T37 m 23 #[.val (.ref ca), .val (.int (0 : Int32)), .val (.int (3 : Int32)), .val (.ref b), .val (.int (0 : Int32))] []
  refine k_iinc (z := (1 : Int32)) (l' := #[.val (.ref ca), .val (.int (1 : Int32)), .val (.int (3 : Int32)), .val (.ref b), .val (.int (0 : Int32))]) (pc' := 26) C P37 d15_23 rfl rfl rfl rfl ?_
  refine k_iinc (z := (1 : Int32)) (l' := #[.val (.ref ca), .val (.int (1 : Int32)), .val (.int (3 : Int32)), .val (.ref b), .val (.int (1 : Int32))]) (pc' := 29) C P37 d15_26 rfl rfl rfl rfl ?_
  refine k_goto (pc' := 8) C P37 d15_29 (by decide) (by decide) ?_
  refine k_iload (pc' := 10) C P37 d15_8 rfl rfl ?_
  refine k_iloadN (pc' := 11) C P37 d15_10 rfl rfl ?_
  refine k_icN (pc' := 14) C P37 d15_11 (show (1 : Int32) < (3 : Int32) by decide) rfl ?_
  refine k_aloadN (pc' := 15) C P37 d15_14 rfl rfl rfl ?_
  refine k_iload (pc' := 17) C P37 d15_15 rfl rfl ?_
  refine k_aloadN (pc' := 18) C P37 d15_17 rfl rfl rfl ?_
  refine k_iloadN (pc' := 19) C P37 d15_18 rfl rfl ?_
  refine k_caload (J := 1) (v := (.int c1)) (pc' := 20) C P37 f37_ca d15_19 rfl (by decide) rfl rfl ?_
  refine k_callT (pc' := 23) (cells' := 1) (slots' := 6) (W := 0) C P37 (C.w 81 rfl) (C.w 82 rfl) (C.w 83 rfl) (C.w 41 rfl) (by decide) (rmPC1 l Z a0 hw _ n0 P37.size b kb 6 (by decide) (fun j => if j = 0 then (own_lo c0) else if j = 1 then (own_hi c0) else (0 : Int32)) c1 f37_S__assertionsDisabled f37_S_HI_BYTE_SHIFT f37_S_LO_BYTE_SHIFT gb36 V37_) [(.ref b), (.int (1 : Int32)), (.int c1)] [] rfl (lenOf pd_2 rfl) rfl (Nat.le_of_eq rfl) d15_20 rfl (by decide) (by decide) rfl rfl (by decide) (by decide) (allS (Or.inr (Nat.le_trans P.kept.1 zb36)) all0) rfl ?_
  intro T38 h38 v38 P38 K38 Q38
  obtain ⟨rfl, V38_⟩ := Q38
  have f38_ca := f37_ca.keep K38 (ninS (KVA.neT f37_ca V37_ nofun) nin0)
  have f38_S__assertionsDisabled := k_staKeep f37_S__assertionsDisabled K38 (k_nsS V37_.ns k_ns0)
  have f38_S_HI_BYTE_SHIFT := k_staKeep f37_S_HI_BYTE_SHIFT K38 (k_nsS V37_.ns k_ns0)
  have f38_S_LO_BYTE_SHIFT := k_staKeep f37_S_LO_BYTE_SHIFT K38 (k_nsS V37_.ns k_ns0)
  show KGo p e below _ T38 m 23 #[.val (.ref ca), .val (.int (1 : Int32)), .val (.int (3 : Int32)), .val (.ref b), .val (.int (1 : Int32))] []
  refine k_iinc (z := (2 : Int32)) (l' := #[.val (.ref ca), .val (.int (2 : Int32)), .val (.int (3 : Int32)), .val (.ref b), .val (.int (1 : Int32))]) (pc' := 26) C P38 d15_23 rfl rfl rfl rfl ?_
  refine k_iinc (z := (2 : Int32)) (l' := #[.val (.ref ca), .val (.int (2 : Int32)), .val (.int (3 : Int32)), .val (.ref b), .val (.int (2 : Int32))]) (pc' := 29) C P38 d15_26 rfl rfl rfl rfl ?_
  refine k_goto (pc' := 8) C P38 d15_29 (by decide) (by decide) ?_
  refine k_iload (pc' := 10) C P38 d15_8 rfl rfl ?_
  refine k_iloadN (pc' := 11) C P38 d15_10 rfl rfl ?_
  refine k_icN (pc' := 14) C P38 d15_11 (show (2 : Int32) < (3 : Int32) by decide) rfl ?_
  refine k_aloadN (pc' := 15) C P38 d15_14 rfl rfl rfl ?_
  refine k_iload (pc' := 17) C P38 d15_15 rfl rfl ?_
  refine k_aloadN (pc' := 18) C P38 d15_17 rfl rfl rfl ?_
  refine k_iloadN (pc' := 19) C P38 d15_18 rfl rfl ?_
  refine k_caload (J := 2) (v := (.int c2)) (pc' := 20) C P38 f38_ca d15_19 rfl (by decide) rfl rfl ?_
  refine k_callT (pc' := 23) (cells' := 1) (slots' := 6) (W := 0) C P38 (C.w 81 rfl) (C.w 82 rfl) (C.w 83 rfl) (C.w 41 rfl) (by decide) (rmPC2 l Z a0 hw _ n0 P38.size b kb 6 (by decide) (fun j => if j = 2 then (own_lo c1) else if j = 3 then (own_hi c1) else if j = 0 then (own_lo c0) else if j = 1 then (own_hi c0) else (0 : Int32)) c2 f38_S__assertionsDisabled f38_S_HI_BYTE_SHIFT f38_S_LO_BYTE_SHIFT gb36 V38_) [(.ref b), (.int (2 : Int32)), (.int c2)] [] rfl (lenOf pd_2 rfl) rfl (Nat.le_of_eq rfl) d15_20 rfl (by decide) (by decide) rfl rfl (by decide) (by decide) (allS (Or.inr (Nat.le_trans P.kept.1 zb36)) all0) rfl ?_
  intro T39 h39 v39 P39 K39 Q39
  obtain ⟨rfl, V39_⟩ := Q39
  have f39_ca := f38_ca.keep K39 (ninS (KVA.neT f38_ca V38_ nofun) nin0)
  have f39_S__assertionsDisabled := k_staKeep f38_S__assertionsDisabled K39 (k_nsS V38_.ns k_ns0)
  have f39_S_HI_BYTE_SHIFT := k_staKeep f38_S_HI_BYTE_SHIFT K39 (k_nsS V38_.ns k_ns0)
  have f39_S_LO_BYTE_SHIFT := k_staKeep f38_S_LO_BYTE_SHIFT K39 (k_nsS V38_.ns k_ns0)
  show KGo p e below _ T39 m 23 #[.val (.ref ca), .val (.int (2 : Int32)), .val (.int (3 : Int32)), .val (.ref b), .val (.int (2 : Int32))] []
  refine k_iinc (z := (3 : Int32)) (l' := #[.val (.ref ca), .val (.int (3 : Int32)), .val (.int (3 : Int32)), .val (.ref b), .val (.int (2 : Int32))]) (pc' := 26) C P39 d15_23 rfl rfl rfl rfl ?_
  refine k_iinc (z := (3 : Int32)) (l' := #[.val (.ref ca), .val (.int (3 : Int32)), .val (.int (3 : Int32)), .val (.ref b), .val (.int (3 : Int32))]) (pc' := 29) C P39 d15_26 rfl rfl rfl rfl ?_
  refine k_goto (pc' := 8) C P39 d15_29 (by decide) (by decide) ?_
  refine k_iload (pc' := 10) C P39 d15_8 rfl rfl ?_
  refine k_iloadN (pc' := 11) C P39 d15_10 rfl rfl ?_
  refine k_icY (pc' := 32) C P39 d15_11 (show ¬ (3 : Int32) < (3 : Int32) by decide) (by decide) (by decide) ?_
  refine k_aloadN (pc' := 33) C P39 d15_32 rfl rfl rfl ?_
  exact k_retA C P39 d15_33 rfl rfl (by decide) (by decide) ⟨_, _, rfl, V39_.congr (fun j hj => by match j, hj with | 0, _ => rfl | 1, _ => rfl | 2, _ => rfl | 3, _ => rfl | 4, _ => rfl | 5, _ => rfl)⟩
theorem pn_8 : plainName "java/lang/StringUTF16" = true := by first | (simp [plainName, overriddenIn]; done) | decide +kernel
theorem ef_rmK5_1 (m : MethodId) (x0 : Addr) (x1 : Int32) (x2 : Addr) (x3 : Int32) (x4 : Int32) : entryFrame m #[(.ref x0), (.int x1), (.ref x2), (.int x3), (.int x4)] 7 = mkF m 0 #[.val (.ref x0), .val (.int x1), .val (.ref x2), .val (.int x3), .val (.int x4), .unset, .unset] [] := by first | (simp [entryFrame, mkF, argsToLocals, Value.category]; done) | rfl
set_option maxRecDepth 65536 in
set_option maxHeartbeats 40000000 in
theorem rmK5_1 (l : Launch) (Z : State) (a0 : Array Value) (hw : ∀ d ∈ tables_1, d.before a0 Z = true) (h0 : Heap) (n0 : Nat) (Z0 : n0 ≤ h0.size) (c0 : Int32) (hc0_ : ¬ 255 < c0) (ca : Addr) (kc : ClassId) (VC : KVA Z h0 ca kc .char 1 (fun j => Value.int (c0))) (b : Addr) (kb : ClassId) (VB : KVA Z h0 b kb .byte 1 (fun _ => .int 0)) (ge_b : n0 ≤ b) :
    KCt false l (⟨"java/lang/StringUTF16", "compress", "([CI[BII)I"⟩ : MethodName) jdk_52_method_21_code 7 (some .int) ({ frames := 0, cells := 0, slots := 0, locals := 0 } : Room) Z n0 h0 #[(.ref ca), (.int (0 : Int32)), (.ref b), (.int (0 : Int32)), (.int (1 : Int32))] [b] (fun v h => v = some (.int 1) ∧ KVA Z h b kb .byte 1 (fun j => Value.int (c0.toInt8.toInt32))) := by
  refine k_enter (tbl := tables_1) (a0 := a0) (Ls := #[.val (.ref ca), .val (.int (0 : Int32)), .val (.ref b), .val (.int (0 : Int32)), .val (.int (1 : Int32)), .unset, .unset]) (plainFor_of_name pn_8) hw Z0 (fun m => ef_rmK5_1 m ca (0 : Int32) b (0 : Int32) (1 : Int32)) ?_
  intro p e s m below meth c T C P
  have sz_b : b ∈ [b] ∨ h0.size ≤ b := Or.inl (by simp)
  refine k_iconst (z := (0 : Int32)) (pc' := 1) C P d8_0 rfl rfl ?_
  refine k_istore (l' := #[.val (.ref ca), .val (.int (0 : Int32)), .val (.ref b), .val (.int (0 : Int32)), .val (.int (1 : Int32)), .val (.int (0 : Int32)), .unset]) (pc' := 3) C P d8_1 rfl rfl ?_
  refine k_iload (pc' := 5) C P d8_3 rfl rfl ?_
  refine k_iload (pc' := 7) C P d8_5 rfl rfl ?_
  refine k_icN (pc' := 10) C P d8_7 (show (0 : Int32) < (1 : Int32) by decide) rfl ?_
  refine k_aloadN (pc' := 11) C P d8_10 rfl rfl rfl ?_
  refine k_iloadN (pc' := 12) C P d8_11 rfl rfl ?_
  refine k_caload (J := 0) (v := (.int c0)) (pc' := 13) C P VC d8_12 rfl (by decide) rfl rfl ?_
  refine k_istore (l' := #[.val (.ref ca), .val (.int (0 : Int32)), .val (.ref b), .val (.int (0 : Int32)), .val (.int (1 : Int32)), .val (.int (0 : Int32)), .val (.int c0)]) (pc' := 15) C P d8_13 rfl rfl ?_
  refine k_iload (pc' := 17) C P d8_15 rfl rfl ?_
  refine k_sipush (z := (255 : Int32)) (pc' := 20) C P d8_17 rfl rfl ?_
  refine k_icY (pc' := 26) C P d8_20 hc0_ (by decide) (by decide) ?_
  refine k_aloadN (pc' := 27) C P d8_26 rfl rfl rfl ?_
  refine k_iloadN (pc' := 28) C P d8_27 rfl rfl ?_
  refine k_iload (pc' := 30) C P d8_28 rfl rfl ?_
  refine k_i2b (pc' := 31) C P d8_30 rfl ?_
  refine k_bastore (J := 0) (g' := (fun j => Value.int (c0.toInt8.toInt32))) (pc' := 32) C P VB d8_31 rfl (by decide) (fun i hi => by match i, hi with | 0, _ => exact congrArg Value.int (own_nb _)) ge_b sz_b rfl ?_
  intro T40 h40 P40 W40 V40
  have f40_ca := VC.other W40 (KVA.neT VC VB nofun)
  refine k_iinc (z := (1 : Int32)) (l' := #[.val (.ref ca), .val (.int (1 : Int32)), .val (.ref b), .val (.int (0 : Int32)), .val (.int (1 : Int32)), .val (.int (0 : Int32)), .val (.int c0)]) (pc' := 35) C P40 d8_32 rfl rfl rfl rfl ?_
  refine k_iinc (z := (1 : Int32)) (l' := #[.val (.ref ca), .val (.int (1 : Int32)), .val (.ref b), .val (.int (1 : Int32)), .val (.int (1 : Int32)), .val (.int (0 : Int32)), .val (.int c0)]) (pc' := 38) C P40 d8_35 rfl rfl rfl rfl ?_
  refine k_iinc (z := (1 : Int32)) (l' := #[.val (.ref ca), .val (.int (1 : Int32)), .val (.ref b), .val (.int (1 : Int32)), .val (.int (1 : Int32)), .val (.int (1 : Int32)), .val (.int c0)]) (pc' := 41) C P40 d8_38 rfl rfl rfl rfl ?_
  refine k_goto (pc' := 3) C P40 d8_41 (by decide) (by decide) ?_
  refine k_iload (pc' := 5) C P40 d8_3 rfl rfl ?_
  refine k_iload (pc' := 7) C P40 d8_5 rfl rfl ?_
  refine k_icY (pc' := 44) C P40 d8_7 (show ¬ (1 : Int32) < (1 : Int32) by decide) (by decide) (by decide) ?_
  refine k_iload (pc' := 46) C P40 d8_44 rfl rfl ?_
  exact k_retI C P40 d8_46 (by decide) (by decide) ⟨rfl, V40⟩
theorem pn_7 : plainName "java/lang/StringUTF16" = true := by first | (simp [plainName, overriddenIn]; done) | decide +kernel
theorem ef_rmK3_1 (m : MethodId) (x0 : Addr) (x1 : Int32) (x2 : Int32) : entryFrame m #[(.ref x0), (.int x1), (.int x2)] 6 = mkF m 0 #[.val (.ref x0), .val (.int x1), .val (.int x2), .unset, .unset, .unset] [] := by first | (simp [entryFrame, mkF, argsToLocals, Value.category]; done) | rfl
set_option maxRecDepth 65536 in
set_option maxHeartbeats 40000000 in
theorem rmK3_1 (l : Launch) (Z : State) (a0 : Array Value) (hw : ∀ d ∈ tables_1, d.before a0 Z = true) (h0 : Heap) (n0 : Nat) (Z0 : n0 ≤ h0.size) (c0 : Int32) (hc0_ : ¬ 255 < c0) (ca : Addr) (kc : ClassId) (VC : KVA Z h0 ca kc .char 1 (fun j => Value.int (c0))) :
    KCt false l (⟨"java/lang/StringUTF16", "compress", "([CII)[B"⟩ : MethodName) jdk_52_method_16_code 6 (some (.array .byte)) ({ frames := 4, cells := 2, slots := 12, locals := 80 } : Room) Z n0 h0 #[(.ref ca), (.int (0 : Int32)), (.int (1 : Int32))] [] (fun v h => ∃ (b : Addr) (kb : ClassId), v = some (.ref b) ∧ KVA Z h b kb .byte 1 (fun j => Value.int (c0.toInt8.toInt32))) := by
  refine k_enter (tbl := tables_1) (a0 := a0) (Ls := #[.val (.ref ca), .val (.int (0 : Int32)), .val (.int (1 : Int32)), .unset, .unset, .unset]) (plainFor_of_name pn_7) hw Z0 (fun m => ef_rmK3_1 m ca (0 : Int32) (1 : Int32)) ?_
  intro p e s m below meth c T C P
  refine k_iloadN (pc' := 1) C P d7_0 rfl rfl ?_
  refine k_newp (pc' := 3) (cells' := 1) (slots' := 4) (N := 1) (cap := 4) C P (C.w 17 rfl) d7_1 rfl (by decide) (by decide) rfl rfl (by decide) (by decide) rfl ?_
  intro T41 h41 b41 k41 P41 hs41 ge_b41 sz_b41 E41 V41
  have ne_ca_b41 : ca ≠ b41 := Nat.ne_of_lt (hs41 ▸ VC.lt)
  have f41_ca := VC.ext E41
  refine k_astoreN (l' := #[.val (.ref ca), .val (.int (0 : Int32)), .val (.int (1 : Int32)), .val (.ref b41), .unset, .unset]) (pc' := 4) C P41 d7_3 rfl rfl rfl ?_
  refine k_aloadN (pc' := 5) C P41 d7_4 rfl rfl rfl ?_
  refine k_iloadN (pc' := 6) C P41 d7_5 rfl rfl ?_
  refine k_aloadN (pc' := 7) C P41 d7_6 rfl rfl rfl ?_
  refine k_iconst (z := (0 : Int32)) (pc' := 8) C P41 d7_7 rfl rfl ?_
  refine k_iloadN (pc' := 9) C P41 d7_8 rfl rfl ?_
  refine k_callT (pc' := 12) (cells' := 1) (slots' := 4) (W := 0) C P41 (C.w 43 rfl) (C.w 44 rfl) (C.w 45 rfl) (C.w 41 rfl) (by decide) (rmK5_1 l Z a0 hw _ n0 P41.size c0 hc0_ ca kc f41_ca b41 k41 V41 ge_b41) [(.ref ca), (.int (0 : Int32)), (.ref b41), (.int (0 : Int32)), (.int (1 : Int32))] [] rfl (lenOf pd_3 rfl) rfl (Nat.le_of_eq rfl) d7_9 rfl (by decide) (by decide) rfl rfl (by decide) (by decide) (allS (Or.inr sz_b41) all0) rfl ?_
  intro T42 h42 v42 P42 K42 Q42
  obtain ⟨rfl, V42_⟩ := Q42
  have f42_ca := f41_ca.keep K42 (ninS ne_ca_b41 nin0)
  show KGo p e below _ T42 m 12 #[.val (.ref ca), .val (.int (0 : Int32)), .val (.int (1 : Int32)), .val (.ref b41), .unset, .unset] [(.int (1 : Int32))]
  refine k_istore (l' := #[.val (.ref ca), .val (.int (0 : Int32)), .val (.int (1 : Int32)), .val (.ref b41), .val (.int (1 : Int32)), .unset]) (pc' := 14) C P42 d7_12 rfl rfl ?_
  refine k_iload (pc' := 16) C P42 d7_14 rfl rfl ?_
  refine k_iloadN (pc' := 17) C P42 d7_16 rfl rfl ?_
  refine k_icY (pc' := 57) C P42 d7_17 (rfl : (_ : Int32) = _) (by decide) (by decide) ?_
  refine k_aloadN (pc' := 58) C P42 d7_57 rfl rfl rfl ?_
  exact k_retA C P42 d7_58 rfl rfl (by decide) (by decide) ⟨_, _, rfl, V42_⟩
theorem pn_9 : plainName "java/lang/StringUTF16" = true := by first | (simp [plainName, overriddenIn]; done) | decide +kernel
theorem ef_rmCL_1 (m : MethodId) (x0 : Addr) (x1 : Int32) : entryFrame m #[(.ref x0), (.int x1)] 2 = mkF m 0 #[.val (.ref x0), .val (.int x1)] [] := by first | (simp [entryFrame, mkF, argsToLocals, Value.category]; done) | rfl
set_option maxRecDepth 65536 in
set_option maxHeartbeats 40000000 in
theorem rmCL_1 (l : Launch) (Z : State) (a0 : Array Value) (hw : ∀ d ∈ tables_1, d.before a0 Z = true) (h0 : Heap) (n0 : Nat) (Z0 : n0 ≤ h0.size) (b : Addr) (kb : ClassId) (f : Nat → Value) (VB : KVA Z h0 b kb .byte 1 f) :
    KCt false l (⟨"java/lang/StringUTF16", "coderFromArrayLen", "([BI)B"⟩ : MethodName) jdk_52_method_15_code 2 (some .byte) ({ frames := 0, cells := 0, slots := 0, locals := 0 } : Room) Z n0 h0 #[(.ref b), (.int (1 : Int32))] [] (fun v h => v = some (.int 0) ∧ h0 = h) := by
  refine k_enter (tbl := tables_1) (a0 := a0) (Ls := #[.val (.ref b), .val (.int (1 : Int32))]) (plainFor_of_name pn_9) hw Z0 (fun m => ef_rmCL_1 m b (1 : Int32)) ?_
  intro p e s m below meth c T C P
  refine k_iloadN (pc' := 1) C P d9_0 rfl rfl ?_
  refine k_aloadN (pc' := 2) C P d9_1 rfl rfl rfl ?_
  refine k_arrlen (z := (1 : Int32)) (pc' := 3) C P VB d9_2 rfl rfl ?_
  refine k_isub (pc' := 4) C P d9_3 rfl ?_
  refine k_bipush (z := (31 : Int32)) (pc' := 6) C P d9_4 rfl rfl ?_
  refine k_iushr (pc' := 7) C P d9_6 rfl ?_
  refine k_i2b (pc' := 8) C P d9_7 rfl ?_
  exact k_retZ (z' := 0) C P (by simp) d9_8 (by decide) (by decide) (by decide) ⟨rfl, rfl⟩
theorem pn_2 : plainName "java/lang/String" = true := by first | (simp [plainName, overriddenIn]; done) | decide +kernel
theorem ef_rmNI_1 (m : MethodId) (x0 : Addr) (x1 : Addr) (x2 : Int32) (x3 : Int32) : entryFrame m #[(.ref x0), (.ref x1), (.int x2), (.int x3), .null] 6 = mkF m 0 #[.val (.ref x0), .val (.ref x1), .val (.int x2), .val (.int x3), .val .null, .unset] [] := by first | (simp [entryFrame, mkF, argsToLocals, Value.category]; done) | rfl
set_option maxRecDepth 65536 in
set_option maxHeartbeats 40000000 in
theorem rmNI_1 (l : Launch) (Z : State) (a0 : Array Value) (hw : ∀ d ∈ tables_1, d.before a0 Z = true) (h0 : Heap) (n0 : Nat) (Z0 : n0 ≤ h0.size) (c0 : Int32) (hc0_ : ¬ 255 < c0) (ca : Addr) (kc : ClassId) (VC : KVA Z h0 ca kc .char 1 (fun j => Value.int (c0))) (a : Addr) (ge_a : n0 ≤ a) (F : KOb Z h0 a "java/lang/String" layS [.int 0, .null]) (cs : Int32) (hcs : ¬ cs = 0) (SC : Sta Z h0 "java/lang/String" "COMPACT_STRINGS" "Z" (.int cs)) :
    KCt false l (⟨"java/lang/String", "<init>", "([CIILjava/lang/Void;)V"⟩ : MethodName) jdk_42_method_149_code 6 none ({ frames := 5, cells := 2, slots := 12, locals := 110 } : Room) Z n0 h0 #[(.ref a), (.ref ca), (.int (0 : Int32)), (.int (1 : Int32)), .null] [a] (fun v h => v = none ∧ ∃ (b : Addr) (kb : ClassId), KOb Z h a "java/lang/String" layS [.int 0, .ref b] ∧ KVA Z h b kb .byte 1 (fun j => Value.int (c0.toInt8.toInt32))) := by
  refine k_enter (tbl := tables_1) (a0 := a0) (Ls := #[.val (.ref a), .val (.ref ca), .val (.int (0 : Int32)), .val (.int (1 : Int32)), .val .null, .unset]) (plainFor_of_name pn_2) hw Z0 (fun m => ef_rmNI_1 m a ca (0 : Int32) (1 : Int32)) ?_
  intro p e s m below meth c T C P
  have sz_a : a ∈ [a] ∨ h0.size ≤ a := Or.inl (by simp)
  refine k_aloadN (pc' := 1) C P d2_0 rfl rfl rfl ?_
  refine k_initObj (pc' := 4) (W := 0) C P (C.w 13 rfl) (C.w 14 rfl) (C.w 15 rfl) d2_1 rfl (by decide) (by decide) (by decide) rfl ?_
  intro T43 P43
  refine k_iloadN (pc' := 5) C P43 d2_4 rfl rfl ?_
  refine k_ifY (pc' := 27) C P43 d2_5 (show ¬ (1 : Int32) = (0 : Int32) by decide) (by decide) (by decide) ?_
  refine k_gets (pc' := 30) C P43 (C.w 38 rfl) Via.refl SC d2_27 rfl ?_
  intro T44 P44
  refine k_ifN (pc' := 33) C P44 d2_30 hcs rfl ?_
  refine k_aloadN (pc' := 34) C P44 d2_33 rfl rfl rfl ?_
  refine k_iloadN (pc' := 35) C P44 d2_34 rfl rfl ?_
  refine k_iloadN (pc' := 36) C P44 d2_35 rfl rfl ?_
  refine k_callT (pc' := 39) (cells' := 2) (slots' := 12) (W := 0) C P44 (C.w 39 rfl) (C.w 40 rfl) (C.w 42 rfl) (C.w 41 rfl) (by decide) (rmK3_1 l Z a0 hw _ n0 P44.size c0 hc0_ ca kc VC) [(.ref ca), (.int (0 : Int32)), (.int (1 : Int32))] [] rfl (lenOf pd_4 rfl) rfl (Nat.le_of_eq rfl) d2_36 rfl (by decide) (by decide) rfl rfl (by decide) (by decide) all0 rfl ?_
  intro T45 h45 v45 P45 K45 Q45
  obtain ⟨b, kb, rfl, V45_⟩ := Q45
  have f45_a := F.keep K45 nin0
  have f45_ca := VC.keep K45 nin0
  have f45_S_COMPACT_STRINGS := k_staKeep SC K45 k_ns0
  show KGo p e below _ T45 m 39 #[.val (.ref a), .val (.ref ca), .val (.int (0 : Int32)), .val (.int (1 : Int32)), .val .null, .unset] [(.ref b)]
  refine k_astore (l' := #[.val (.ref a), .val (.ref ca), .val (.int (0 : Int32)), .val (.int (1 : Int32)), .val .null, .val (.ref b)]) (pc' := 41) C P45 d2_39 rfl rfl rfl ?_
  refine k_aloadN (pc' := 42) C P45 d2_41 rfl rfl rfl ?_
  refine k_aload (pc' := 44) C P45 d2_42 rfl rfl rfl ?_
  refine k_iloadN (pc' := 45) C P45 d2_44 rfl rfl ?_
  refine k_callT (pc' := 48) (cells' := 2) (slots' := 12) (W := 1) C P45 (C.w 46 rfl) (C.w 47 rfl) (C.w 48 rfl) (C.w 41 rfl) (by decide) (rmCL_1 l Z a0 hw _ n0 P45.size b kb _ V45_) [(.ref b), (.int (1 : Int32))] [(.ref a)] rfl (lenOf pd_5 rfl) rfl (Nat.le_of_eq rfl) d2_45 rfl (by decide) (by decide) rfl rfl (by decide) (by decide) all0 rfl ?_
  intro T46 h46 v46 P46 K46 Q46
  obtain ⟨e46, g46⟩ := Q46
  subst g46
  subst e46
  show KGo p e below _ T46 m 48 #[.val (.ref a), .val (.ref ca), .val (.int (0 : Int32)), .val (.int (1 : Int32)), .val .null, .val (.ref b)] [(.int (0 : Int32)), (.ref a)]
  refine k_putf (pc' := 51) (ty := .byte) (v' := (.int (0 : Int32))) C P46 (C.w 23 rfl) Via.refl f45_a 0 rfl (Or.inr ⟨(C.w 19 rfl), rfl, rfl⟩) (C.w 4 rfl) (by decide) rfl rfl d2_48 ge_a sz_a rfl ?_
  intro T47 h47 P47 W47
  have f47_a : KOb Z h47 a "java/lang/String" layS [(.int (0 : Int32)), .null] := f45_a.put (lokS C.hw) 0 rfl W47 rfl
  have f47_ca := f45_ca.other W47 (f45_ca.ne_ob f45_a.exa (C.w 4 rfl))
  have f47_S_COMPACT_STRINGS := Sta.wr W47 f45_S_COMPACT_STRINGS
  have f47_b := V45_.other W47 (V45_.ne_ob f45_a.exa (C.w 4 rfl))
  refine k_aloadN (pc' := 52) C P47 d2_51 rfl rfl rfl ?_
  refine k_aload (pc' := 54) C P47 d2_52 rfl rfl rfl ?_
  refine k_putf (pc' := 57) (ty := (.array .byte)) (v' := (.ref b)) C P47 (C.w 22 rfl) Via.refl f47_a 1 rfl (Or.inr ⟨(C.w 18 rfl), rfl, rfl⟩) (C.w 4 rfl) (by decide) rfl rfl d2_54 ge_a sz_a rfl ?_
  intro T48 h48 P48 W48
  have f48_a : KOb Z h48 a "java/lang/String" layS [(.int (0 : Int32)), (.ref b)] := f47_a.put (lokS C.hw) 1 rfl W48 rfl
  have f48_ca := f47_ca.other W48 (f47_ca.ne_ob f47_a.exa (C.w 4 rfl))
  have f48_S_COMPACT_STRINGS := Sta.wr W48 f47_S_COMPACT_STRINGS
  have f48_b := f47_b.other W48 (f47_b.ne_ob f47_a.exa (C.w 4 rfl))
  exact k_retV C P48 d2_57 (by decide) (by decide) ⟨rfl, b, kb, f48_a, f48_b⟩
theorem pn_1 : plainName "java/lang/String" = true := by first | (simp [plainName, overriddenIn]; done) | decide +kernel
theorem ef_rmNew_1 (m : MethodId) (x0 : Addr) (x1 : Addr) : entryFrame m #[(.ref x0), (.ref x1)] 2 = mkF m 0 #[.val (.ref x0), .val (.ref x1)] [] := by first | (simp [entryFrame, mkF, argsToLocals, Value.category]; done) | rfl
set_option maxRecDepth 65536 in
set_option maxHeartbeats 40000000 in
theorem rmNew_1 (l : Launch) (Z : State) (a0 : Array Value) (hw : ∀ d ∈ tables_1, d.before a0 Z = true) (h0 : Heap) (n0 : Nat) (Z0 : n0 ≤ h0.size) (c0 : Int32) (hc0_ : ¬ 255 < c0) (ca : Addr) (kc : ClassId) (VC : KVA Z h0 ca kc .char 1 (fun j => Value.int (c0))) (a : Addr) (ge_a : n0 ≤ a) (F : KOb Z h0 a "java/lang/String" layS [.int 0, .null]) (cs : Int32) (hcs : ¬ cs = 0) (SC : Sta Z h0 "java/lang/String" "COMPACT_STRINGS" "Z" (.int cs)) :
    KCt false l (⟨"java/lang/String", "<init>", "([C)V"⟩ : MethodName) jdk_42_method_3_code 2 none ({ frames := 6, cells := 2, slots := 12, locals := 140 } : Room) Z n0 h0 #[(.ref a), (.ref ca)] [a] (fun v h => v = none ∧ ∃ (b : Addr) (kb : ClassId), KOb Z h a "java/lang/String" layS [.int 0, .ref b] ∧ KVA Z h b kb .byte 1 (fun j => Value.int (c0.toInt8.toInt32))) := by
  refine k_enter (tbl := tables_1) (a0 := a0) (Ls := #[.val (.ref a), .val (.ref ca)]) (plainFor_of_name pn_1) hw Z0 (fun m => ef_rmNew_1 m a ca) ?_
  intro p e s m below meth c T C P
  have sz_a : a ∈ [a] ∨ h0.size ≤ a := Or.inl (by simp)
  refine k_aloadN (pc' := 1) C P d1_0 rfl rfl rfl ?_
  refine k_aloadN (pc' := 2) C P d1_1 rfl rfl rfl ?_
  refine k_iconst (z := (0 : Int32)) (pc' := 3) C P d1_2 rfl rfl ?_
  refine k_aloadN (pc' := 4) C P d1_3 rfl rfl rfl ?_
  refine k_arrlen (z := (1 : Int32)) (pc' := 5) C P VC d1_4 rfl rfl ?_
  refine k_aconstNull (pc' := 6) C P d1_5 rfl ?_
  refine k_callN (pc' := 9) (cells' := 2) (slots' := 12) (W := 0) C P rfl (C.w 9 rfl) (C.w 10 rfl) (C.w 12 rfl) (C.w 5 rfl) (by decide) (rmNI_1 l Z a0 hw _ n0 P.size c0 hc0_ ca kc VC a ge_a F cs hcs SC) a [(.ref ca), (.int (0 : Int32)), (.int (1 : Int32)), .null] [] rfl (lenOf pd_6 rfl) rfl (Nat.le_of_eq rfl) d1_6 rfl (by decide) (by decide) rfl rfl (by decide) (by decide) (allS sz_a all0) rfl ?_
  intro T49 h49 v49 P49 K49 Q49
  obtain ⟨rfl, b, kb, F49_, V49_⟩ := Q49
  have f49_ca := VC.keep K49 (ninS (VC.ne_ob F.exa (C.w 4 rfl)) nin0)
  have f49_S_COMPACT_STRINGS := k_staKeep SC K49 (k_nsS F.ns k_ns0)
  show KGo p e below _ T49 m 9 #[.val (.ref a), .val (.ref ca)] []
  exact k_retV C P49 d1_9 (by decide) (by decide) ⟨rfl, b, kb, F49_, V49_⟩
theorem ef_rmCU_1 (m : MethodId) (x0 : Addr) (x1 : Int32) : entryFrame m #[(.ref x0), (.int x1)] 2 = mkF m 0 #[.val (.ref x0), .val (.int x1)] [] := by first | (simp [entryFrame, mkF, argsToLocals, Value.category]; done) | rfl
set_option maxRecDepth 65536 in
set_option maxHeartbeats 40000000 in
theorem rmCU_1 (l : Launch) (Z : State) (a0 : Array Value) (hw : ∀ d ∈ tables_1, d.before a0 Z = true) (h0 : Heap) (n0 : Nat) (Z0 : n0 ≤ h0.size) (b : Addr) (kb : ClassId) (f : Nat → Value) (VB : KVA Z h0 b kb .byte 2 f) :
    KCt false l (⟨"java/lang/StringUTF16", "coderFromArrayLen", "([BI)B"⟩ : MethodName) jdk_52_method_15_code 2 (some .byte) ({ frames := 0, cells := 0, slots := 0, locals := 0 } : Room) Z n0 h0 #[(.ref b), (.int (1 : Int32))] [] (fun v h => v = some (.int 1) ∧ h0 = h) := by
  refine k_enter (tbl := tables_1) (a0 := a0) (Ls := #[.val (.ref b), .val (.int (1 : Int32))]) (plainFor_of_name pn_9) hw Z0 (fun m => ef_rmCU_1 m b (1 : Int32)) ?_
  intro p e s m below meth c T C P
  refine k_iloadN (pc' := 1) C P d9_0 rfl rfl ?_
  refine k_aloadN (pc' := 2) C P d9_1 rfl rfl rfl ?_
  refine k_arrlen (z := (2 : Int32)) (pc' := 3) C P VB d9_2 rfl rfl ?_
  refine k_isub (pc' := 4) C P d9_3 rfl ?_
  refine k_bipush (z := (31 : Int32)) (pc' := 6) C P d9_4 rfl rfl ?_
  refine k_iushr (pc' := 7) C P d9_6 rfl ?_
  refine k_i2b (pc' := 8) C P d9_7 rfl ?_
  exact k_retZ (z' := 1) C P (by simp) d9_8 (by decide) (by decide) (by decide) ⟨rfl, rfl⟩
theorem ef_rmU5_10 (m : MethodId) (x0 : Addr) (x1 : Int32) (x2 : Addr) (x3 : Int32) (x4 : Int32) : entryFrame m #[(.ref x0), (.int x1), (.ref x2), (.int x3), (.int x4)] 7 = mkF m 0 #[.val (.ref x0), .val (.int x1), .val (.ref x2), .val (.int x3), .val (.int x4), .unset, .unset] [] := by first | (simp [entryFrame, mkF, argsToLocals, Value.category]; done) | rfl
set_option maxRecDepth 65536 in
set_option maxHeartbeats 40000000 in
theorem rmU5_10 (l : Launch) (Z : State) (a0 : Array Value) (hw : ∀ d ∈ tables_1, d.before a0 Z = true) (h0 : Heap) (n0 : Nat) (Z0 : n0 ≤ h0.size) (c0 : Int32) (hx : own_ch c0)  (hi_ : 255 < c0) (ca : Addr) (kc : ClassId) (VC : KVA Z h0 ca kc .char 1 (fun j => Value.int (c0))) (b : Addr) (kb : ClassId) (VB : KVA Z h0 b kb .byte 1 (fun _ => .int 0)) (ge_b : n0 ≤ b) :
    KCt false l (⟨"java/lang/StringUTF16", "compress", "([CI[BII)I"⟩ : MethodName) jdk_52_method_21_code 7 (some .int) ({ frames := 0, cells := 0, slots := 0, locals := 0 } : Room) Z n0 h0 #[(.ref ca), (.int (0 : Int32)), (.ref b), (.int (0 : Int32)), (.int (1 : Int32))] [b] (fun v h => v = some (.int 0)) := by
  refine k_enter (tbl := tables_1) (a0 := a0) (Ls := #[.val (.ref ca), .val (.int (0 : Int32)), .val (.ref b), .val (.int (0 : Int32)), .val (.int (1 : Int32)), .unset, .unset]) (plainFor_of_name pn_8) hw Z0 (fun m => ef_rmU5_10 m ca (0 : Int32) b (0 : Int32) (1 : Int32)) ?_
  intro p e s m below meth c T C P
  have sz_b : b ∈ [b] ∨ h0.size ≤ b := Or.inl (by simp)
  refine k_iconst (z := (0 : Int32)) (pc' := 1) C P d8_0 rfl rfl ?_
  refine k_istore (l' := #[.val (.ref ca), .val (.int (0 : Int32)), .val (.ref b), .val (.int (0 : Int32)), .val (.int (1 : Int32)), .val (.int (0 : Int32)), .unset]) (pc' := 3) C P d8_1 rfl rfl ?_
  refine k_iload (pc' := 5) C P d8_3 rfl rfl ?_
  refine k_iload (pc' := 7) C P d8_5 rfl rfl ?_
  refine k_icN (pc' := 10) C P d8_7 (show (0 : Int32) < (1 : Int32) by decide) rfl ?_
  refine k_aloadN (pc' := 11) C P d8_10 rfl rfl rfl ?_
  refine k_iloadN (pc' := 12) C P d8_11 rfl rfl ?_
  refine k_caload (J := 0) (v := (.int c0)) (pc' := 13) C P VC d8_12 rfl (by decide) rfl rfl ?_
  refine k_istore (l' := #[.val (.ref ca), .val (.int (0 : Int32)), .val (.ref b), .val (.int (0 : Int32)), .val (.int (1 : Int32)), .val (.int (0 : Int32)), .val (.int c0)]) (pc' := 15) C P d8_13 rfl rfl ?_
  refine k_iload (pc' := 17) C P d8_15 rfl rfl ?_
  refine k_sipush (z := (255 : Int32)) (pc' := 20) C P d8_17 rfl rfl ?_
  refine k_icN (pc' := 23) C P d8_20 hi_ rfl ?_
  refine k_iload (pc' := 25) C P d8_23 rfl rfl ?_
  exact k_retI C P d8_25 (by decide) (by decide) rfl
theorem ef_rmU3_10 (m : MethodId) (x0 : Addr) (x1 : Int32) (x2 : Int32) : entryFrame m #[(.ref x0), (.int x1), (.int x2)] 6 = mkF m 0 #[.val (.ref x0), .val (.int x1), .val (.int x2), .unset, .unset, .unset] [] := by first | (simp [entryFrame, mkF, argsToLocals, Value.category]; done) | rfl
set_option maxRecDepth 65536 in
set_option maxHeartbeats 40000000 in
theorem rmU3_10 (l : Launch) (Z : State) (a0 : Array Value) (hw : ∀ d ∈ tables_1, d.before a0 Z = true) (h0 : Heap) (n0 : Nat) (Z0 : n0 ≤ h0.size) (c0 : Int32) (hx : own_ch c0)  (hi_ : 255 < c0) (ca : Addr) (kc : ClassId) (VC : KVA Z h0 ca kc .char 1 (fun j => Value.int (c0))) (SA : Sta Z h0 "java/lang/StringUTF16" "$assertionsDisabled" "Z" (.int 1)) (SH : Sta Z h0 "java/lang/StringUTF16" "HI_BYTE_SHIFT" "I" (.int 0)) (SL : Sta Z h0 "java/lang/StringUTF16" "LO_BYTE_SHIFT" "I" (.int 8)) :
    KCt false l (⟨"java/lang/StringUTF16", "compress", "([CII)[B"⟩ : MethodName) jdk_52_method_16_code 6 (some (.array .byte)) ({ frames := 4, cells := 2, slots := 12, locals := 80 } : Room) Z n0 h0 #[(.ref ca), (.int (0 : Int32)), (.int (1 : Int32))] [] (fun v h => ∃ (b : Addr) (kb : ClassId), v = some (.ref b) ∧ KVA Z h b kb .byte 2 (fun j => .int (if j = 0 then (own_lo c0) else if j = 1 then (own_hi c0) else (0 : Int32)))) := by
  refine k_enter (tbl := tables_1) (a0 := a0) (Ls := #[.val (.ref ca), .val (.int (0 : Int32)), .val (.int (1 : Int32)), .unset, .unset, .unset]) (plainFor_of_name pn_7) hw Z0 (fun m => ef_rmU3_10 m ca (0 : Int32) (1 : Int32)) ?_
  intro p e s m below meth c T C P
  refine k_iloadN (pc' := 1) C P d7_0 rfl rfl ?_
  refine k_newp (pc' := 3) (cells' := 1) (slots' := 4) (N := 1) (cap := 4) C P (C.w 17 rfl) d7_1 rfl (by decide) (by decide) rfl rfl (by decide) (by decide) rfl ?_
  intro T50 h50 b50 k50 P50 hs50 ge_b50 sz_b50 E50 V50
  have ne_ca_b50 : ca ≠ b50 := Nat.ne_of_lt (hs50 ▸ VC.lt)
  have f50_ca := VC.ext E50
  have f50_S__assertionsDisabled := Sta.ext E50 SA
  have f50_S_HI_BYTE_SHIFT := Sta.ext E50 SH
  have f50_S_LO_BYTE_SHIFT := Sta.ext E50 SL
  refine k_astoreN (l' := #[.val (.ref ca), .val (.int (0 : Int32)), .val (.int (1 : Int32)), .val (.ref b50), .unset, .unset]) (pc' := 4) C P50 d7_3 rfl rfl rfl ?_
  refine k_aloadN (pc' := 5) C P50 d7_4 rfl rfl rfl ?_
  refine k_iloadN (pc' := 6) C P50 d7_5 rfl rfl ?_
  refine k_aloadN (pc' := 7) C P50 d7_6 rfl rfl rfl ?_
  refine k_iconst (z := (0 : Int32)) (pc' := 8) C P50 d7_7 rfl rfl ?_
  refine k_iloadN (pc' := 9) C P50 d7_8 rfl rfl ?_
  refine k_callT (pc' := 12) (cells' := 1) (slots' := 4) (W := 0) C P50 (C.w 43 rfl) (C.w 44 rfl) (C.w 45 rfl) (C.w 41 rfl) (by decide) (rmU5_10 l Z a0 hw _ n0 P50.size c0 hx  hi_ ca kc f50_ca b50 k50 V50 ge_b50) [(.ref ca), (.int (0 : Int32)), (.ref b50), (.int (0 : Int32)), (.int (1 : Int32))] [] rfl (lenOf pd_3 rfl) rfl (Nat.le_of_eq rfl) d7_9 rfl (by decide) (by decide) rfl rfl (by decide) (by decide) (allS (Or.inr sz_b50) all0) rfl ?_
  intro T51 h51 v51 P51 K51 Q51
  obtain rfl := Q51
  have f51_ca := f50_ca.keep K51 (ninS ne_ca_b50 nin0)
  have f51_S__assertionsDisabled := k_staKeep f50_S__assertionsDisabled K51 (k_nsS V50.ns k_ns0)
  have f51_S_HI_BYTE_SHIFT := k_staKeep f50_S_HI_BYTE_SHIFT K51 (k_nsS V50.ns k_ns0)
  have f51_S_LO_BYTE_SHIFT := k_staKeep f50_S_LO_BYTE_SHIFT K51 (k_nsS V50.ns k_ns0)
  show KGo p e below _ T51 m 12 #[.val (.ref ca), .val (.int (0 : Int32)), .val (.int (1 : Int32)), .val (.ref b50), .unset, .unset] [(.int (0 : Int32))]
  refine k_istore (l' := #[.val (.ref ca), .val (.int (0 : Int32)), .val (.int (1 : Int32)), .val (.ref b50), .val (.int (0 : Int32)), .unset]) (pc' := 14) C P51 d7_12 rfl rfl ?_
  refine k_iload (pc' := 16) C P51 d7_14 rfl rfl ?_
  refine k_iloadN (pc' := 17) C P51 d7_16 rfl rfl ?_
  refine k_icN (pc' := 20) C P51 d7_17 (show ¬ (0 : Int32) = (1 : Int32) by decide) rfl ?_
  refine k_aloadN (pc' := 21) C P51 d7_20 rfl rfl rfl ?_
  refine k_iloadN (pc' := 22) C P51 d7_21 rfl rfl ?_
  refine k_iloadN (pc' := 23) C P51 d7_22 rfl rfl ?_
  refine k_callT (pc' := 26) (cells' := 2) (slots' := 10) (W := 0) C P51 (C.w 71 rfl) (C.w 72 rfl) (C.w 73 rfl) (C.w 41 rfl) (by decide) (rmTB1 l Z a0 hw _ n0 P51.size c0 ca kc f51_ca f51_S__assertionsDisabled f51_S_HI_BYTE_SHIFT f51_S_LO_BYTE_SHIFT) [(.ref ca), (.int (0 : Int32)), (.int (1 : Int32))] [] rfl (lenOf pd_4 rfl) rfl (Nat.le_of_eq rfl) d7_23 rfl (by decide) (by decide) rfl rfl (by decide) (by decide) all0 rfl ?_
  intro T52 h52 v52 P52 K52 Q52
  obtain ⟨y, ky, rfl, V52_⟩ := Q52
  have f52_ca := f51_ca.keep K52 nin0
  have f52_S__assertionsDisabled := k_staKeep f51_S__assertionsDisabled K52 k_ns0
  have f52_S_HI_BYTE_SHIFT := k_staKeep f51_S_HI_BYTE_SHIFT K52 k_ns0
  have f52_S_LO_BYTE_SHIFT := k_staKeep f51_S_LO_BYTE_SHIFT K52 k_ns0
  show KGo p e below _ T52 m 26 #[.val (.ref ca), .val (.int (0 : Int32)), .val (.int (1 : Int32)), .val (.ref b50), .val (.int (0 : Int32)), .unset] [(.ref y)]
  refine k_astore (l' := #[.val (.ref ca), .val (.int (0 : Int32)), .val (.int (1 : Int32)), .val (.ref b50), .val (.int (0 : Int32)), .val (.ref y)]) (pc' := 28) C P52 d7_26 rfl rfl rfl ?_
  refine k_aload (pc' := 30) C P52 d7_28 rfl rfl rfl ?_
  refine k_iload (pc' := 32) C P52 d7_30 rfl rfl ?_
  refine k_callT (pc' := 35) (cells' := 2) (slots' := 10) (W := 0) C P52 (C.w 87 rfl) (C.w 88 rfl) (C.w 89 rfl) (C.w 41 rfl) (by decide) (rmGC0 l Z a0 hw _ n0 P52.size y ky 2 (by decide) (fun j => if j = 0 then (own_lo c0) else if j = 1 then (own_hi c0) else (0 : Int32)) c0 hx rfl rfl f52_S__assertionsDisabled f52_S_HI_BYTE_SHIFT f52_S_LO_BYTE_SHIFT V52_) [(.ref y), (.int (0 : Int32))] [] rfl (lenOf pd_7 rfl) rfl (Nat.le_of_eq rfl) d7_32 rfl (by decide) (by decide) rfl rfl (by decide) (by decide) all0 rfl ?_
  intro T53 h53 v53 P53 K53 Q53
  obtain ⟨e53, g53⟩ := Q53
  subst g53
  subst e53
  show KGo p e below _ T53 m 35 #[.val (.ref ca), .val (.int (0 : Int32)), .val (.int (1 : Int32)), .val (.ref b50), .val (.int (0 : Int32)), .val (.ref y)] [(.int c0)]
  refine k_sipush (z := (255 : Int32)) (pc' := 38) C P53 d7_35 rfl rfl ?_
  refine k_icY (pc' := 54) C P53 d7_38 hi_ (by decide) (by decide) ?_
  refine k_aload (pc' := 56) C P53 d7_54 rfl rfl rfl ?_
  exact k_retA C P53 d7_56 rfl rfl (by decide) (by decide) ⟨_, _, rfl, V52_⟩
theorem ef_rmUI_10 (m : MethodId) (x0 : Addr) (x1 : Addr) (x2 : Int32) (x3 : Int32) : entryFrame m #[(.ref x0), (.ref x1), (.int x2), (.int x3), .null] 6 = mkF m 0 #[.val (.ref x0), .val (.ref x1), .val (.int x2), .val (.int x3), .val .null, .unset] [] := by first | (simp [entryFrame, mkF, argsToLocals, Value.category]; done) | rfl
set_option maxRecDepth 65536 in
set_option maxHeartbeats 40000000 in
theorem rmUI_10 (l : Launch) (Z : State) (a0 : Array Value) (hw : ∀ d ∈ tables_1, d.before a0 Z = true) (h0 : Heap) (n0 : Nat) (Z0 : n0 ≤ h0.size) (c0 : Int32) (hx : own_ch c0)  (hi_ : 255 < c0) (ca : Addr) (kc : ClassId) (VC : KVA Z h0 ca kc .char 1 (fun j => Value.int (c0))) (a : Addr) (ge_a : n0 ≤ a) (F : KOb Z h0 a "java/lang/String" layS [.int 0, .null]) (cs : Int32) (hcs : ¬ cs = 0) (SC : Sta Z h0 "java/lang/String" "COMPACT_STRINGS" "Z" (.int cs)) (SA : Sta Z h0 "java/lang/StringUTF16" "$assertionsDisabled" "Z" (.int 1)) (SH : Sta Z h0 "java/lang/StringUTF16" "HI_BYTE_SHIFT" "I" (.int 0)) (SL : Sta Z h0 "java/lang/StringUTF16" "LO_BYTE_SHIFT" "I" (.int 8)) :
    KCt false l (⟨"java/lang/String", "<init>", "([CIILjava/lang/Void;)V"⟩ : MethodName) jdk_42_method_149_code 6 none ({ frames := 5, cells := 2, slots := 12, locals := 110 } : Room) Z n0 h0 #[(.ref a), (.ref ca), (.int (0 : Int32)), (.int (1 : Int32)), .null] [a] (fun v h => v = none ∧ ∃ (b : Addr) (kb : ClassId), KOb Z h a "java/lang/String" layS [.int 1, .ref b] ∧ KVA Z h b kb .byte 2 (fun j => .int (if j = 0 then (own_lo c0) else if j = 1 then (own_hi c0) else (0 : Int32)))) := by
  refine k_enter (tbl := tables_1) (a0 := a0) (Ls := #[.val (.ref a), .val (.ref ca), .val (.int (0 : Int32)), .val (.int (1 : Int32)), .val .null, .unset]) (plainFor_of_name pn_2) hw Z0 (fun m => ef_rmUI_10 m a ca (0 : Int32) (1 : Int32)) ?_
  intro p e s m below meth c T C P
  have sz_a : a ∈ [a] ∨ h0.size ≤ a := Or.inl (by simp)
  refine k_aloadN (pc' := 1) C P d2_0 rfl rfl rfl ?_
  refine k_initObj (pc' := 4) (W := 0) C P (C.w 13 rfl) (C.w 14 rfl) (C.w 15 rfl) d2_1 rfl (by decide) (by decide) (by decide) rfl ?_
  intro T54 P54
  refine k_iloadN (pc' := 5) C P54 d2_4 rfl rfl ?_
  refine k_ifY (pc' := 27) C P54 d2_5 (show ¬ (1 : Int32) = (0 : Int32) by decide) (by decide) (by decide) ?_
  refine k_gets (pc' := 30) C P54 (C.w 38 rfl) Via.refl SC d2_27 rfl ?_
  intro T55 P55
  refine k_ifN (pc' := 33) C P55 d2_30 hcs rfl ?_
  refine k_aloadN (pc' := 34) C P55 d2_33 rfl rfl rfl ?_
  refine k_iloadN (pc' := 35) C P55 d2_34 rfl rfl ?_
  refine k_iloadN (pc' := 36) C P55 d2_35 rfl rfl ?_
  refine k_callT (pc' := 39) (cells' := 2) (slots' := 12) (W := 0) C P55 (C.w 39 rfl) (C.w 40 rfl) (C.w 42 rfl) (C.w 41 rfl) (by decide) (rmU3_10 l Z a0 hw _ n0 P55.size c0 hx  hi_ ca kc VC SA SH SL) [(.ref ca), (.int (0 : Int32)), (.int (1 : Int32))] [] rfl (lenOf pd_4 rfl) rfl (Nat.le_of_eq rfl) d2_36 rfl (by decide) (by decide) rfl rfl (by decide) (by decide) all0 rfl ?_
  intro T56 h56 v56 P56 K56 Q56
  obtain ⟨b, kb, rfl, V56_⟩ := Q56
  have f56_a := F.keep K56 nin0
  have f56_ca := VC.keep K56 nin0
  have f56_S_COMPACT_STRINGS := k_staKeep SC K56 k_ns0
  have f56_S__assertionsDisabled := k_staKeep SA K56 k_ns0
  have f56_S_HI_BYTE_SHIFT := k_staKeep SH K56 k_ns0
  have f56_S_LO_BYTE_SHIFT := k_staKeep SL K56 k_ns0
  show KGo p e below _ T56 m 39 #[.val (.ref a), .val (.ref ca), .val (.int (0 : Int32)), .val (.int (1 : Int32)), .val .null, .unset] [(.ref b)]
  refine k_astore (l' := #[.val (.ref a), .val (.ref ca), .val (.int (0 : Int32)), .val (.int (1 : Int32)), .val .null, .val (.ref b)]) (pc' := 41) C P56 d2_39 rfl rfl rfl ?_
  refine k_aloadN (pc' := 42) C P56 d2_41 rfl rfl rfl ?_
  refine k_aload (pc' := 44) C P56 d2_42 rfl rfl rfl ?_
  refine k_iloadN (pc' := 45) C P56 d2_44 rfl rfl ?_
  refine k_callT (pc' := 48) (cells' := 2) (slots' := 12) (W := 1) C P56 (C.w 46 rfl) (C.w 47 rfl) (C.w 48 rfl) (C.w 41 rfl) (by decide) (rmCU_1 l Z a0 hw _ n0 P56.size b kb _ V56_) [(.ref b), (.int (1 : Int32))] [(.ref a)] rfl (lenOf pd_5 rfl) rfl (Nat.le_of_eq rfl) d2_45 rfl (by decide) (by decide) rfl rfl (by decide) (by decide) all0 rfl ?_
  intro T57 h57 v57 P57 K57 Q57
  obtain ⟨e57, g57⟩ := Q57
  subst g57
  subst e57
  show KGo p e below _ T57 m 48 #[.val (.ref a), .val (.ref ca), .val (.int (0 : Int32)), .val (.int (1 : Int32)), .val .null, .val (.ref b)] [(.int (1 : Int32)), (.ref a)]
  refine k_putf (pc' := 51) (ty := .byte) (v' := (.int (1 : Int32))) C P57 (C.w 23 rfl) Via.refl f56_a 0 rfl (Or.inr ⟨(C.w 19 rfl), rfl, rfl⟩) (C.w 4 rfl) (by decide) rfl rfl d2_48 ge_a sz_a rfl ?_
  intro T58 h58 P58 W58
  have f58_a : KOb Z h58 a "java/lang/String" layS [(.int (1 : Int32)), .null] := f56_a.put (lokS C.hw) 0 rfl W58 rfl
  have f58_ca := f56_ca.other W58 (f56_ca.ne_ob f56_a.exa (C.w 4 rfl))
  have f58_S_COMPACT_STRINGS := Sta.wr W58 f56_S_COMPACT_STRINGS
  have f58_S__assertionsDisabled := Sta.wr W58 f56_S__assertionsDisabled
  have f58_S_HI_BYTE_SHIFT := Sta.wr W58 f56_S_HI_BYTE_SHIFT
  have f58_S_LO_BYTE_SHIFT := Sta.wr W58 f56_S_LO_BYTE_SHIFT
  have f58_b := V56_.other W58 (V56_.ne_ob f56_a.exa (C.w 4 rfl))
  refine k_aloadN (pc' := 52) C P58 d2_51 rfl rfl rfl ?_
  refine k_aload (pc' := 54) C P58 d2_52 rfl rfl rfl ?_
  refine k_putf (pc' := 57) (ty := (.array .byte)) (v' := (.ref b)) C P58 (C.w 22 rfl) Via.refl f58_a 1 rfl (Or.inr ⟨(C.w 18 rfl), rfl, rfl⟩) (C.w 4 rfl) (by decide) rfl rfl d2_54 ge_a sz_a rfl ?_
  intro T59 h59 P59 W59
  have f59_a : KOb Z h59 a "java/lang/String" layS [(.int (1 : Int32)), (.ref b)] := f58_a.put (lokS C.hw) 1 rfl W59 rfl
  have f59_ca := f58_ca.other W59 (f58_ca.ne_ob f58_a.exa (C.w 4 rfl))
  have f59_S_COMPACT_STRINGS := Sta.wr W59 f58_S_COMPACT_STRINGS
  have f59_S__assertionsDisabled := Sta.wr W59 f58_S__assertionsDisabled
  have f59_S_HI_BYTE_SHIFT := Sta.wr W59 f58_S_HI_BYTE_SHIFT
  have f59_S_LO_BYTE_SHIFT := Sta.wr W59 f58_S_LO_BYTE_SHIFT
  have f59_b := f58_b.other W59 (f58_b.ne_ob f58_a.exa (C.w 4 rfl))
  exact k_retV C P59 d2_57 (by decide) (by decide) ⟨rfl, b, kb, f59_a, f59_b⟩
theorem ef_rmUN_10 (m : MethodId) (x0 : Addr) (x1 : Addr) : entryFrame m #[(.ref x0), (.ref x1)] 2 = mkF m 0 #[.val (.ref x0), .val (.ref x1)] [] := by first | (simp [entryFrame, mkF, argsToLocals, Value.category]; done) | rfl
set_option maxRecDepth 65536 in
set_option maxHeartbeats 40000000 in
theorem rmUN_10 (l : Launch) (Z : State) (a0 : Array Value) (hw : ∀ d ∈ tables_1, d.before a0 Z = true) (h0 : Heap) (n0 : Nat) (Z0 : n0 ≤ h0.size) (c0 : Int32) (hx : own_ch c0)  (hi_ : 255 < c0) (ca : Addr) (kc : ClassId) (VC : KVA Z h0 ca kc .char 1 (fun j => Value.int (c0))) (a : Addr) (ge_a : n0 ≤ a) (F : KOb Z h0 a "java/lang/String" layS [.int 0, .null]) (cs : Int32) (hcs : ¬ cs = 0) (SC : Sta Z h0 "java/lang/String" "COMPACT_STRINGS" "Z" (.int cs)) (SA : Sta Z h0 "java/lang/StringUTF16" "$assertionsDisabled" "Z" (.int 1)) (SH : Sta Z h0 "java/lang/StringUTF16" "HI_BYTE_SHIFT" "I" (.int 0)) (SL : Sta Z h0 "java/lang/StringUTF16" "LO_BYTE_SHIFT" "I" (.int 8)) :
    KCt false l (⟨"java/lang/String", "<init>", "([C)V"⟩ : MethodName) jdk_42_method_3_code 2 none ({ frames := 6, cells := 2, slots := 12, locals := 140 } : Room) Z n0 h0 #[(.ref a), (.ref ca)] [a] (fun v h => v = none ∧ ∃ (b : Addr) (kb : ClassId), KOb Z h a "java/lang/String" layS [.int 1, .ref b] ∧ KVA Z h b kb .byte 2 (fun j => .int (if j = 0 then (own_lo c0) else if j = 1 then (own_hi c0) else (0 : Int32)))) := by
  refine k_enter (tbl := tables_1) (a0 := a0) (Ls := #[.val (.ref a), .val (.ref ca)]) (plainFor_of_name pn_1) hw Z0 (fun m => ef_rmUN_10 m a ca) ?_
  intro p e s m below meth c T C P
  have sz_a : a ∈ [a] ∨ h0.size ≤ a := Or.inl (by simp)
  refine k_aloadN (pc' := 1) C P d1_0 rfl rfl rfl ?_
  refine k_aloadN (pc' := 2) C P d1_1 rfl rfl rfl ?_
  refine k_iconst (z := (0 : Int32)) (pc' := 3) C P d1_2 rfl rfl ?_
  refine k_aloadN (pc' := 4) C P d1_3 rfl rfl rfl ?_
  refine k_arrlen (z := (1 : Int32)) (pc' := 5) C P VC d1_4 rfl rfl ?_
  refine k_aconstNull (pc' := 6) C P d1_5 rfl ?_
  refine k_callN (pc' := 9) (cells' := 2) (slots' := 12) (W := 0) C P rfl (C.w 9 rfl) (C.w 10 rfl) (C.w 12 rfl) (C.w 5 rfl) (by decide) (rmUI_10 l Z a0 hw _ n0 P.size c0 hx  hi_ ca kc VC a ge_a F cs hcs SC SA SH SL) a [(.ref ca), (.int (0 : Int32)), (.int (1 : Int32)), .null] [] rfl (lenOf pd_6 rfl) rfl (Nat.le_of_eq rfl) d1_6 rfl (by decide) (by decide) rfl rfl (by decide) (by decide) (allS sz_a all0) rfl ?_
  intro T60 h60 v60 P60 K60 Q60
  obtain ⟨rfl, b, kb, F60_, V60_⟩ := Q60
  have f60_ca := VC.keep K60 (ninS (VC.ne_ob F.exa (C.w 4 rfl)) nin0)
  have f60_S_COMPACT_STRINGS := k_staKeep SC K60 (k_nsS F.ns k_ns0)
  have f60_S__assertionsDisabled := k_staKeep SA K60 (k_nsS F.ns k_ns0)
  have f60_S_HI_BYTE_SHIFT := k_staKeep SH K60 (k_nsS F.ns k_ns0)
  have f60_S_LO_BYTE_SHIFT := k_staKeep SL K60 (k_nsS F.ns k_ns0)
  show KGo p e below _ T60 m 9 #[.val (.ref a), .val (.ref ca)] []
  exact k_retV C P60 d1_9 (by decide) (by decide) ⟨rfl, b, kb, F60_, V60_⟩
theorem ef_rmK5_2 (m : MethodId) (x0 : Addr) (x1 : Int32) (x2 : Addr) (x3 : Int32) (x4 : Int32) : entryFrame m #[(.ref x0), (.int x1), (.ref x2), (.int x3), (.int x4)] 7 = mkF m 0 #[.val (.ref x0), .val (.int x1), .val (.ref x2), .val (.int x3), .val (.int x4), .unset, .unset] [] := by first | (simp [entryFrame, mkF, argsToLocals, Value.category]; done) | rfl
set_option maxRecDepth 65536 in
set_option maxHeartbeats 40000000 in
theorem rmK5_2 (l : Launch) (Z : State) (a0 : Array Value) (hw : ∀ d ∈ tables_1, d.before a0 Z = true) (h0 : Heap) (n0 : Nat) (Z0 : n0 ≤ h0.size) (c0 c1 : Int32) (hc0_ : ¬ 255 < c0) (hc1_ : ¬ 255 < c1) (ca : Addr) (kc : ClassId) (VC : KVA Z h0 ca kc .char 2 (fun j => Value.int (if j = 0 then c0 else c1))) (b : Addr) (kb : ClassId) (VB : KVA Z h0 b kb .byte 2 (fun _ => .int 0)) (ge_b : n0 ≤ b) :
    KCt false l (⟨"java/lang/StringUTF16", "compress", "([CI[BII)I"⟩ : MethodName) jdk_52_method_21_code 7 (some .int) ({ frames := 0, cells := 0, slots := 0, locals := 0 } : Room) Z n0 h0 #[(.ref ca), (.int (0 : Int32)), (.ref b), (.int (0 : Int32)), (.int (2 : Int32))] [b] (fun v h => v = some (.int 2) ∧ KVA Z h b kb .byte 2 (fun j => Value.int (if j = 0 then c0.toInt8.toInt32 else c1.toInt8.toInt32))) := by
  refine k_enter (tbl := tables_1) (a0 := a0) (Ls := #[.val (.ref ca), .val (.int (0 : Int32)), .val (.ref b), .val (.int (0 : Int32)), .val (.int (2 : Int32)), .unset, .unset]) (plainFor_of_name pn_8) hw Z0 (fun m => ef_rmK5_2 m ca (0 : Int32) b (0 : Int32) (2 : Int32)) ?_
  intro p e s m below meth c T C P
  have sz_b : b ∈ [b] ∨ h0.size ≤ b := Or.inl (by simp)
  refine k_iconst (z := (0 : Int32)) (pc' := 1) C P d8_0 rfl rfl ?_
  refine k_istore (l' := #[.val (.ref ca), .val (.int (0 : Int32)), .val (.ref b), .val (.int (0 : Int32)), .val (.int (2 : Int32)), .val (.int (0 : Int32)), .unset]) (pc' := 3) C P d8_1 rfl rfl ?_
  refine k_iload (pc' := 5) C P d8_3 rfl rfl ?_
  refine k_iload (pc' := 7) C P d8_5 rfl rfl ?_
  refine k_icN (pc' := 10) C P d8_7 (show (0 : Int32) < (2 : Int32) by decide) rfl ?_
  refine k_aloadN (pc' := 11) C P d8_10 rfl rfl rfl ?_
  refine k_iloadN (pc' := 12) C P d8_11 rfl rfl ?_
  refine k_caload (J := 0) (v := (.int c0)) (pc' := 13) C P VC d8_12 rfl (by decide) rfl rfl ?_
  refine k_istore (l' := #[.val (.ref ca), .val (.int (0 : Int32)), .val (.ref b), .val (.int (0 : Int32)), .val (.int (2 : Int32)), .val (.int (0 : Int32)), .val (.int c0)]) (pc' := 15) C P d8_13 rfl rfl ?_
  refine k_iload (pc' := 17) C P d8_15 rfl rfl ?_
  refine k_sipush (z := (255 : Int32)) (pc' := 20) C P d8_17 rfl rfl ?_
  refine k_icY (pc' := 26) C P d8_20 hc0_ (by decide) (by decide) ?_
  refine k_aloadN (pc' := 27) C P d8_26 rfl rfl rfl ?_
  refine k_iloadN (pc' := 28) C P d8_27 rfl rfl ?_
  refine k_iload (pc' := 30) C P d8_28 rfl rfl ?_
  refine k_i2b (pc' := 31) C P d8_30 rfl ?_
  refine k_bastore (J := 0) (g' := (fun j => Value.int (if j = 0 then c0.toInt8.toInt32 else 0))) (pc' := 32) C P VB d8_31 rfl (by decide) (fun i hi => by match i, hi with | 0, _ => exact congrArg Value.int (own_nb _) | 1, _ => rfl) ge_b sz_b rfl ?_
  intro T61 h61 P61 W61 V61
  have f61_ca := VC.other W61 (KVA.neT VC VB nofun)
  refine k_iinc (z := (1 : Int32)) (l' := #[.val (.ref ca), .val (.int (1 : Int32)), .val (.ref b), .val (.int (0 : Int32)), .val (.int (2 : Int32)), .val (.int (0 : Int32)), .val (.int c0)]) (pc' := 35) C P61 d8_32 rfl rfl rfl rfl ?_
  refine k_iinc (z := (1 : Int32)) (l' := #[.val (.ref ca), .val (.int (1 : Int32)), .val (.ref b), .val (.int (1 : Int32)), .val (.int (2 : Int32)), .val (.int (0 : Int32)), .val (.int c0)]) (pc' := 38) C P61 d8_35 rfl rfl rfl rfl ?_
  refine k_iinc (z := (1 : Int32)) (l' := #[.val (.ref ca), .val (.int (1 : Int32)), .val (.ref b), .val (.int (1 : Int32)), .val (.int (2 : Int32)), .val (.int (1 : Int32)), .val (.int c0)]) (pc' := 41) C P61 d8_38 rfl rfl rfl rfl ?_
  refine k_goto (pc' := 3) C P61 d8_41 (by decide) (by decide) ?_
  refine k_iload (pc' := 5) C P61 d8_3 rfl rfl ?_
  refine k_iload (pc' := 7) C P61 d8_5 rfl rfl ?_
  refine k_icN (pc' := 10) C P61 d8_7 (show (1 : Int32) < (2 : Int32) by decide) rfl ?_
  refine k_aloadN (pc' := 11) C P61 d8_10 rfl rfl rfl ?_
  refine k_iloadN (pc' := 12) C P61 d8_11 rfl rfl ?_
  refine k_caload (J := 1) (v := (.int c1)) (pc' := 13) C P61 f61_ca d8_12 rfl (by decide) rfl rfl ?_
  refine k_istore (l' := #[.val (.ref ca), .val (.int (1 : Int32)), .val (.ref b), .val (.int (1 : Int32)), .val (.int (2 : Int32)), .val (.int (1 : Int32)), .val (.int c1)]) (pc' := 15) C P61 d8_13 rfl rfl ?_
  refine k_iload (pc' := 17) C P61 d8_15 rfl rfl ?_
  refine k_sipush (z := (255 : Int32)) (pc' := 20) C P61 d8_17 rfl rfl ?_
  refine k_icY (pc' := 26) C P61 d8_20 hc1_ (by decide) (by decide) ?_
  refine k_aloadN (pc' := 27) C P61 d8_26 rfl rfl rfl ?_
  refine k_iloadN (pc' := 28) C P61 d8_27 rfl rfl ?_
  refine k_iload (pc' := 30) C P61 d8_28 rfl rfl ?_
  refine k_i2b (pc' := 31) C P61 d8_30 rfl ?_
  refine k_bastore (J := 1) (g' := (fun j => Value.int (if j = 0 then c0.toInt8.toInt32 else c1.toInt8.toInt32))) (pc' := 32) C P61 V61 d8_31 rfl (by decide) (fun i hi => by match i, hi with | 0, _ => rfl | 1, _ => exact congrArg Value.int (own_nb _)) ge_b sz_b rfl ?_
  intro T62 h62 P62 W62 V62
  have f62_ca := f61_ca.other W62 (KVA.neT f61_ca V61 nofun)
  refine k_iinc (z := (2 : Int32)) (l' := #[.val (.ref ca), .val (.int (2 : Int32)), .val (.ref b), .val (.int (1 : Int32)), .val (.int (2 : Int32)), .val (.int (1 : Int32)), .val (.int c1)]) (pc' := 35) C P62 d8_32 rfl rfl rfl rfl ?_
  refine k_iinc (z := (2 : Int32)) (l' := #[.val (.ref ca), .val (.int (2 : Int32)), .val (.ref b), .val (.int (2 : Int32)), .val (.int (2 : Int32)), .val (.int (1 : Int32)), .val (.int c1)]) (pc' := 38) C P62 d8_35 rfl rfl rfl rfl ?_
  refine k_iinc (z := (2 : Int32)) (l' := #[.val (.ref ca), .val (.int (2 : Int32)), .val (.ref b), .val (.int (2 : Int32)), .val (.int (2 : Int32)), .val (.int (2 : Int32)), .val (.int c1)]) (pc' := 41) C P62 d8_38 rfl rfl rfl rfl ?_
  refine k_goto (pc' := 3) C P62 d8_41 (by decide) (by decide) ?_
  refine k_iload (pc' := 5) C P62 d8_3 rfl rfl ?_
  refine k_iload (pc' := 7) C P62 d8_5 rfl rfl ?_
  refine k_icY (pc' := 44) C P62 d8_7 (show ¬ (2 : Int32) < (2 : Int32) by decide) (by decide) (by decide) ?_
  refine k_iload (pc' := 46) C P62 d8_44 rfl rfl ?_
  exact k_retI C P62 d8_46 (by decide) (by decide) ⟨rfl, V62⟩
theorem ef_rmK3_2 (m : MethodId) (x0 : Addr) (x1 : Int32) (x2 : Int32) : entryFrame m #[(.ref x0), (.int x1), (.int x2)] 6 = mkF m 0 #[.val (.ref x0), .val (.int x1), .val (.int x2), .unset, .unset, .unset] [] := by first | (simp [entryFrame, mkF, argsToLocals, Value.category]; done) | rfl
set_option maxRecDepth 65536 in
set_option maxHeartbeats 40000000 in
theorem rmK3_2 (l : Launch) (Z : State) (a0 : Array Value) (hw : ∀ d ∈ tables_1, d.before a0 Z = true) (h0 : Heap) (n0 : Nat) (Z0 : n0 ≤ h0.size) (c0 c1 : Int32) (hc0_ : ¬ 255 < c0) (hc1_ : ¬ 255 < c1) (ca : Addr) (kc : ClassId) (VC : KVA Z h0 ca kc .char 2 (fun j => Value.int (if j = 0 then c0 else c1))) :
    KCt false l (⟨"java/lang/StringUTF16", "compress", "([CII)[B"⟩ : MethodName) jdk_52_method_16_code 6 (some (.array .byte)) ({ frames := 4, cells := 2, slots := 12, locals := 80 } : Room) Z n0 h0 #[(.ref ca), (.int (0 : Int32)), (.int (2 : Int32))] [] (fun v h => ∃ (b : Addr) (kb : ClassId), v = some (.ref b) ∧ KVA Z h b kb .byte 2 (fun j => Value.int (if j = 0 then c0.toInt8.toInt32 else c1.toInt8.toInt32))) := by
  refine k_enter (tbl := tables_1) (a0 := a0) (Ls := #[.val (.ref ca), .val (.int (0 : Int32)), .val (.int (2 : Int32)), .unset, .unset, .unset]) (plainFor_of_name pn_7) hw Z0 (fun m => ef_rmK3_2 m ca (0 : Int32) (2 : Int32)) ?_
  intro p e s m below meth c T C P
  refine k_iloadN (pc' := 1) C P d7_0 rfl rfl ?_
  refine k_newp (pc' := 3) (cells' := 1) (slots' := 4) (N := 2) (cap := 4) C P (C.w 17 rfl) d7_1 rfl (by decide) (by decide) rfl rfl (by decide) (by decide) rfl ?_
  intro T63 h63 b63 k63 P63 hs63 ge_b63 sz_b63 E63 V63
  have ne_ca_b63 : ca ≠ b63 := Nat.ne_of_lt (hs63 ▸ VC.lt)
  have f63_ca := VC.ext E63
  refine k_astoreN (l' := #[.val (.ref ca), .val (.int (0 : Int32)), .val (.int (2 : Int32)), .val (.ref b63), .unset, .unset]) (pc' := 4) C P63 d7_3 rfl rfl rfl ?_
  refine k_aloadN (pc' := 5) C P63 d7_4 rfl rfl rfl ?_
  refine k_iloadN (pc' := 6) C P63 d7_5 rfl rfl ?_
  refine k_aloadN (pc' := 7) C P63 d7_6 rfl rfl rfl ?_
  refine k_iconst (z := (0 : Int32)) (pc' := 8) C P63 d7_7 rfl rfl ?_
  refine k_iloadN (pc' := 9) C P63 d7_8 rfl rfl ?_
  refine k_callT (pc' := 12) (cells' := 1) (slots' := 4) (W := 0) C P63 (C.w 43 rfl) (C.w 44 rfl) (C.w 45 rfl) (C.w 41 rfl) (by decide) (rmK5_2 l Z a0 hw _ n0 P63.size c0 c1 hc0_ hc1_ ca kc f63_ca b63 k63 V63 ge_b63) [(.ref ca), (.int (0 : Int32)), (.ref b63), (.int (0 : Int32)), (.int (2 : Int32))] [] rfl (lenOf pd_3 rfl) rfl (Nat.le_of_eq rfl) d7_9 rfl (by decide) (by decide) rfl rfl (by decide) (by decide) (allS (Or.inr sz_b63) all0) rfl ?_
  intro T64 h64 v64 P64 K64 Q64
  obtain ⟨rfl, V64_⟩ := Q64
  have f64_ca := f63_ca.keep K64 (ninS ne_ca_b63 nin0)
  show KGo p e below _ T64 m 12 #[.val (.ref ca), .val (.int (0 : Int32)), .val (.int (2 : Int32)), .val (.ref b63), .unset, .unset] [(.int (2 : Int32))]
  refine k_istore (l' := #[.val (.ref ca), .val (.int (0 : Int32)), .val (.int (2 : Int32)), .val (.ref b63), .val (.int (2 : Int32)), .unset]) (pc' := 14) C P64 d7_12 rfl rfl ?_
  refine k_iload (pc' := 16) C P64 d7_14 rfl rfl ?_
  refine k_iloadN (pc' := 17) C P64 d7_16 rfl rfl ?_
  refine k_icY (pc' := 57) C P64 d7_17 (rfl : (_ : Int32) = _) (by decide) (by decide) ?_
  refine k_aloadN (pc' := 58) C P64 d7_57 rfl rfl rfl ?_
  exact k_retA C P64 d7_58 rfl rfl (by decide) (by decide) ⟨_, _, rfl, V64_⟩
theorem ef_rmCL_2 (m : MethodId) (x0 : Addr) (x1 : Int32) : entryFrame m #[(.ref x0), (.int x1)] 2 = mkF m 0 #[.val (.ref x0), .val (.int x1)] [] := by first | (simp [entryFrame, mkF, argsToLocals, Value.category]; done) | rfl
set_option maxRecDepth 65536 in
set_option maxHeartbeats 40000000 in
theorem rmCL_2 (l : Launch) (Z : State) (a0 : Array Value) (hw : ∀ d ∈ tables_1, d.before a0 Z = true) (h0 : Heap) (n0 : Nat) (Z0 : n0 ≤ h0.size) (b : Addr) (kb : ClassId) (f : Nat → Value) (VB : KVA Z h0 b kb .byte 2 f) :
    KCt false l (⟨"java/lang/StringUTF16", "coderFromArrayLen", "([BI)B"⟩ : MethodName) jdk_52_method_15_code 2 (some .byte) ({ frames := 0, cells := 0, slots := 0, locals := 0 } : Room) Z n0 h0 #[(.ref b), (.int (2 : Int32))] [] (fun v h => v = some (.int 0) ∧ h0 = h) := by
  refine k_enter (tbl := tables_1) (a0 := a0) (Ls := #[.val (.ref b), .val (.int (2 : Int32))]) (plainFor_of_name pn_9) hw Z0 (fun m => ef_rmCL_2 m b (2 : Int32)) ?_
  intro p e s m below meth c T C P
  refine k_iloadN (pc' := 1) C P d9_0 rfl rfl ?_
  refine k_aloadN (pc' := 2) C P d9_1 rfl rfl rfl ?_
  refine k_arrlen (z := (2 : Int32)) (pc' := 3) C P VB d9_2 rfl rfl ?_
  refine k_isub (pc' := 4) C P d9_3 rfl ?_
  refine k_bipush (z := (31 : Int32)) (pc' := 6) C P d9_4 rfl rfl ?_
  refine k_iushr (pc' := 7) C P d9_6 rfl ?_
  refine k_i2b (pc' := 8) C P d9_7 rfl ?_
  exact k_retZ (z' := 0) C P (by simp) d9_8 (by decide) (by decide) (by decide) ⟨rfl, rfl⟩
theorem ef_rmNI_2 (m : MethodId) (x0 : Addr) (x1 : Addr) (x2 : Int32) (x3 : Int32) : entryFrame m #[(.ref x0), (.ref x1), (.int x2), (.int x3), .null] 6 = mkF m 0 #[.val (.ref x0), .val (.ref x1), .val (.int x2), .val (.int x3), .val .null, .unset] [] := by first | (simp [entryFrame, mkF, argsToLocals, Value.category]; done) | rfl
set_option maxRecDepth 65536 in
set_option maxHeartbeats 40000000 in
theorem rmNI_2 (l : Launch) (Z : State) (a0 : Array Value) (hw : ∀ d ∈ tables_1, d.before a0 Z = true) (h0 : Heap) (n0 : Nat) (Z0 : n0 ≤ h0.size) (c0 c1 : Int32) (hc0_ : ¬ 255 < c0) (hc1_ : ¬ 255 < c1) (ca : Addr) (kc : ClassId) (VC : KVA Z h0 ca kc .char 2 (fun j => Value.int (if j = 0 then c0 else c1))) (a : Addr) (ge_a : n0 ≤ a) (F : KOb Z h0 a "java/lang/String" layS [.int 0, .null]) (cs : Int32) (hcs : ¬ cs = 0) (SC : Sta Z h0 "java/lang/String" "COMPACT_STRINGS" "Z" (.int cs)) :
    KCt false l (⟨"java/lang/String", "<init>", "([CIILjava/lang/Void;)V"⟩ : MethodName) jdk_42_method_149_code 6 none ({ frames := 5, cells := 2, slots := 12, locals := 110 } : Room) Z n0 h0 #[(.ref a), (.ref ca), (.int (0 : Int32)), (.int (2 : Int32)), .null] [a] (fun v h => v = none ∧ ∃ (b : Addr) (kb : ClassId), KOb Z h a "java/lang/String" layS [.int 0, .ref b] ∧ KVA Z h b kb .byte 2 (fun j => Value.int (if j = 0 then c0.toInt8.toInt32 else c1.toInt8.toInt32))) := by
  refine k_enter (tbl := tables_1) (a0 := a0) (Ls := #[.val (.ref a), .val (.ref ca), .val (.int (0 : Int32)), .val (.int (2 : Int32)), .val .null, .unset]) (plainFor_of_name pn_2) hw Z0 (fun m => ef_rmNI_2 m a ca (0 : Int32) (2 : Int32)) ?_
  intro p e s m below meth c T C P
  have sz_a : a ∈ [a] ∨ h0.size ≤ a := Or.inl (by simp)
  refine k_aloadN (pc' := 1) C P d2_0 rfl rfl rfl ?_
  refine k_initObj (pc' := 4) (W := 0) C P (C.w 13 rfl) (C.w 14 rfl) (C.w 15 rfl) d2_1 rfl (by decide) (by decide) (by decide) rfl ?_
  intro T65 P65
  refine k_iloadN (pc' := 5) C P65 d2_4 rfl rfl ?_
  refine k_ifY (pc' := 27) C P65 d2_5 (show ¬ (2 : Int32) = (0 : Int32) by decide) (by decide) (by decide) ?_
  refine k_gets (pc' := 30) C P65 (C.w 38 rfl) Via.refl SC d2_27 rfl ?_
  intro T66 P66
  refine k_ifN (pc' := 33) C P66 d2_30 hcs rfl ?_
  refine k_aloadN (pc' := 34) C P66 d2_33 rfl rfl rfl ?_
  refine k_iloadN (pc' := 35) C P66 d2_34 rfl rfl ?_
  refine k_iloadN (pc' := 36) C P66 d2_35 rfl rfl ?_
  refine k_callT (pc' := 39) (cells' := 2) (slots' := 12) (W := 0) C P66 (C.w 39 rfl) (C.w 40 rfl) (C.w 42 rfl) (C.w 41 rfl) (by decide) (rmK3_2 l Z a0 hw _ n0 P66.size c0 c1 hc0_ hc1_ ca kc VC) [(.ref ca), (.int (0 : Int32)), (.int (2 : Int32))] [] rfl (lenOf pd_4 rfl) rfl (Nat.le_of_eq rfl) d2_36 rfl (by decide) (by decide) rfl rfl (by decide) (by decide) all0 rfl ?_
  intro T67 h67 v67 P67 K67 Q67
  obtain ⟨b, kb, rfl, V67_⟩ := Q67
  have f67_a := F.keep K67 nin0
  have f67_ca := VC.keep K67 nin0
  have f67_S_COMPACT_STRINGS := k_staKeep SC K67 k_ns0
  show KGo p e below _ T67 m 39 #[.val (.ref a), .val (.ref ca), .val (.int (0 : Int32)), .val (.int (2 : Int32)), .val .null, .unset] [(.ref b)]
  refine k_astore (l' := #[.val (.ref a), .val (.ref ca), .val (.int (0 : Int32)), .val (.int (2 : Int32)), .val .null, .val (.ref b)]) (pc' := 41) C P67 d2_39 rfl rfl rfl ?_
  refine k_aloadN (pc' := 42) C P67 d2_41 rfl rfl rfl ?_
  refine k_aload (pc' := 44) C P67 d2_42 rfl rfl rfl ?_
  refine k_iloadN (pc' := 45) C P67 d2_44 rfl rfl ?_
  refine k_callT (pc' := 48) (cells' := 2) (slots' := 12) (W := 1) C P67 (C.w 46 rfl) (C.w 47 rfl) (C.w 48 rfl) (C.w 41 rfl) (by decide) (rmCL_2 l Z a0 hw _ n0 P67.size b kb _ V67_) [(.ref b), (.int (2 : Int32))] [(.ref a)] rfl (lenOf pd_5 rfl) rfl (Nat.le_of_eq rfl) d2_45 rfl (by decide) (by decide) rfl rfl (by decide) (by decide) all0 rfl ?_
  intro T68 h68 v68 P68 K68 Q68
  obtain ⟨e68, g68⟩ := Q68
  subst g68
  subst e68
  show KGo p e below _ T68 m 48 #[.val (.ref a), .val (.ref ca), .val (.int (0 : Int32)), .val (.int (2 : Int32)), .val .null, .val (.ref b)] [(.int (0 : Int32)), (.ref a)]
  refine k_putf (pc' := 51) (ty := .byte) (v' := (.int (0 : Int32))) C P68 (C.w 23 rfl) Via.refl f67_a 0 rfl (Or.inr ⟨(C.w 19 rfl), rfl, rfl⟩) (C.w 4 rfl) (by decide) rfl rfl d2_48 ge_a sz_a rfl ?_
  intro T69 h69 P69 W69
  have f69_a : KOb Z h69 a "java/lang/String" layS [(.int (0 : Int32)), .null] := f67_a.put (lokS C.hw) 0 rfl W69 rfl
  have f69_ca := f67_ca.other W69 (f67_ca.ne_ob f67_a.exa (C.w 4 rfl))
  have f69_S_COMPACT_STRINGS := Sta.wr W69 f67_S_COMPACT_STRINGS
  have f69_b := V67_.other W69 (V67_.ne_ob f67_a.exa (C.w 4 rfl))
  refine k_aloadN (pc' := 52) C P69 d2_51 rfl rfl rfl ?_
  refine k_aload (pc' := 54) C P69 d2_52 rfl rfl rfl ?_
  refine k_putf (pc' := 57) (ty := (.array .byte)) (v' := (.ref b)) C P69 (C.w 22 rfl) Via.refl f69_a 1 rfl (Or.inr ⟨(C.w 18 rfl), rfl, rfl⟩) (C.w 4 rfl) (by decide) rfl rfl d2_54 ge_a sz_a rfl ?_
  intro T70 h70 P70 W70
  have f70_a : KOb Z h70 a "java/lang/String" layS [(.int (0 : Int32)), (.ref b)] := f69_a.put (lokS C.hw) 1 rfl W70 rfl
  have f70_ca := f69_ca.other W70 (f69_ca.ne_ob f69_a.exa (C.w 4 rfl))
  have f70_S_COMPACT_STRINGS := Sta.wr W70 f69_S_COMPACT_STRINGS
  have f70_b := f69_b.other W70 (f69_b.ne_ob f69_a.exa (C.w 4 rfl))
  exact k_retV C P70 d2_57 (by decide) (by decide) ⟨rfl, b, kb, f70_a, f70_b⟩
theorem ef_rmNew_2 (m : MethodId) (x0 : Addr) (x1 : Addr) : entryFrame m #[(.ref x0), (.ref x1)] 2 = mkF m 0 #[.val (.ref x0), .val (.ref x1)] [] := by first | (simp [entryFrame, mkF, argsToLocals, Value.category]; done) | rfl
set_option maxRecDepth 65536 in
set_option maxHeartbeats 40000000 in
theorem rmNew_2 (l : Launch) (Z : State) (a0 : Array Value) (hw : ∀ d ∈ tables_1, d.before a0 Z = true) (h0 : Heap) (n0 : Nat) (Z0 : n0 ≤ h0.size) (c0 c1 : Int32) (hc0_ : ¬ 255 < c0) (hc1_ : ¬ 255 < c1) (ca : Addr) (kc : ClassId) (VC : KVA Z h0 ca kc .char 2 (fun j => Value.int (if j = 0 then c0 else c1))) (a : Addr) (ge_a : n0 ≤ a) (F : KOb Z h0 a "java/lang/String" layS [.int 0, .null]) (cs : Int32) (hcs : ¬ cs = 0) (SC : Sta Z h0 "java/lang/String" "COMPACT_STRINGS" "Z" (.int cs)) :
    KCt false l (⟨"java/lang/String", "<init>", "([C)V"⟩ : MethodName) jdk_42_method_3_code 2 none ({ frames := 6, cells := 2, slots := 12, locals := 140 } : Room) Z n0 h0 #[(.ref a), (.ref ca)] [a] (fun v h => v = none ∧ ∃ (b : Addr) (kb : ClassId), KOb Z h a "java/lang/String" layS [.int 0, .ref b] ∧ KVA Z h b kb .byte 2 (fun j => Value.int (if j = 0 then c0.toInt8.toInt32 else c1.toInt8.toInt32))) := by
  refine k_enter (tbl := tables_1) (a0 := a0) (Ls := #[.val (.ref a), .val (.ref ca)]) (plainFor_of_name pn_1) hw Z0 (fun m => ef_rmNew_2 m a ca) ?_
  intro p e s m below meth c T C P
  have sz_a : a ∈ [a] ∨ h0.size ≤ a := Or.inl (by simp)
  refine k_aloadN (pc' := 1) C P d1_0 rfl rfl rfl ?_
  refine k_aloadN (pc' := 2) C P d1_1 rfl rfl rfl ?_
  refine k_iconst (z := (0 : Int32)) (pc' := 3) C P d1_2 rfl rfl ?_
  refine k_aloadN (pc' := 4) C P d1_3 rfl rfl rfl ?_
  refine k_arrlen (z := (2 : Int32)) (pc' := 5) C P VC d1_4 rfl rfl ?_
  refine k_aconstNull (pc' := 6) C P d1_5 rfl ?_
  refine k_callN (pc' := 9) (cells' := 2) (slots' := 12) (W := 0) C P rfl (C.w 9 rfl) (C.w 10 rfl) (C.w 12 rfl) (C.w 5 rfl) (by decide) (rmNI_2 l Z a0 hw _ n0 P.size c0 c1 hc0_ hc1_ ca kc VC a ge_a F cs hcs SC) a [(.ref ca), (.int (0 : Int32)), (.int (2 : Int32)), .null] [] rfl (lenOf pd_6 rfl) rfl (Nat.le_of_eq rfl) d1_6 rfl (by decide) (by decide) rfl rfl (by decide) (by decide) (allS sz_a all0) rfl ?_
  intro T71 h71 v71 P71 K71 Q71
  obtain ⟨rfl, b, kb, F71_, V71_⟩ := Q71
  have f71_ca := VC.keep K71 (ninS (VC.ne_ob F.exa (C.w 4 rfl)) nin0)
  have f71_S_COMPACT_STRINGS := k_staKeep SC K71 (k_nsS F.ns k_ns0)
  show KGo p e below _ T71 m 9 #[.val (.ref a), .val (.ref ca)] []
  exact k_retV C P71 d1_9 (by decide) (by decide) ⟨rfl, b, kb, F71_, V71_⟩
theorem ef_rmCU_2 (m : MethodId) (x0 : Addr) (x1 : Int32) : entryFrame m #[(.ref x0), (.int x1)] 2 = mkF m 0 #[.val (.ref x0), .val (.int x1)] [] := by first | (simp [entryFrame, mkF, argsToLocals, Value.category]; done) | rfl
set_option maxRecDepth 65536 in
set_option maxHeartbeats 40000000 in
theorem rmCU_2 (l : Launch) (Z : State) (a0 : Array Value) (hw : ∀ d ∈ tables_1, d.before a0 Z = true) (h0 : Heap) (n0 : Nat) (Z0 : n0 ≤ h0.size) (b : Addr) (kb : ClassId) (f : Nat → Value) (VB : KVA Z h0 b kb .byte 4 f) :
    KCt false l (⟨"java/lang/StringUTF16", "coderFromArrayLen", "([BI)B"⟩ : MethodName) jdk_52_method_15_code 2 (some .byte) ({ frames := 0, cells := 0, slots := 0, locals := 0 } : Room) Z n0 h0 #[(.ref b), (.int (2 : Int32))] [] (fun v h => v = some (.int 1) ∧ h0 = h) := by
  refine k_enter (tbl := tables_1) (a0 := a0) (Ls := #[.val (.ref b), .val (.int (2 : Int32))]) (plainFor_of_name pn_9) hw Z0 (fun m => ef_rmCU_2 m b (2 : Int32)) ?_
  intro p e s m below meth c T C P
  refine k_iloadN (pc' := 1) C P d9_0 rfl rfl ?_
  refine k_aloadN (pc' := 2) C P d9_1 rfl rfl rfl ?_
  refine k_arrlen (z := (4 : Int32)) (pc' := 3) C P VB d9_2 rfl rfl ?_
  refine k_isub (pc' := 4) C P d9_3 rfl ?_
  refine k_bipush (z := (31 : Int32)) (pc' := 6) C P d9_4 rfl rfl ?_
  refine k_iushr (pc' := 7) C P d9_6 rfl ?_
  refine k_i2b (pc' := 8) C P d9_7 rfl ?_
  exact k_retZ (z' := 1) C P (by simp) d9_8 (by decide) (by decide) (by decide) ⟨rfl, rfl⟩
theorem ef_rmU5_20 (m : MethodId) (x0 : Addr) (x1 : Int32) (x2 : Addr) (x3 : Int32) (x4 : Int32) : entryFrame m #[(.ref x0), (.int x1), (.ref x2), (.int x3), (.int x4)] 7 = mkF m 0 #[.val (.ref x0), .val (.int x1), .val (.ref x2), .val (.int x3), .val (.int x4), .unset, .unset] [] := by first | (simp [entryFrame, mkF, argsToLocals, Value.category]; done) | rfl
set_option maxRecDepth 65536 in
set_option maxHeartbeats 40000000 in
theorem rmU5_20 (l : Launch) (Z : State) (a0 : Array Value) (hw : ∀ d ∈ tables_1, d.before a0 Z = true) (h0 : Heap) (n0 : Nat) (Z0 : n0 ≤ h0.size) (c0 c1 : Int32) (hx : own_ch c0)  (hi_ : 255 < c0) (ca : Addr) (kc : ClassId) (VC : KVA Z h0 ca kc .char 2 (fun j => Value.int (if j = 0 then c0 else c1))) (b : Addr) (kb : ClassId) (VB : KVA Z h0 b kb .byte 2 (fun _ => .int 0)) (ge_b : n0 ≤ b) :
    KCt false l (⟨"java/lang/StringUTF16", "compress", "([CI[BII)I"⟩ : MethodName) jdk_52_method_21_code 7 (some .int) ({ frames := 0, cells := 0, slots := 0, locals := 0 } : Room) Z n0 h0 #[(.ref ca), (.int (0 : Int32)), (.ref b), (.int (0 : Int32)), (.int (2 : Int32))] [b] (fun v h => v = some (.int 0)) := by
  refine k_enter (tbl := tables_1) (a0 := a0) (Ls := #[.val (.ref ca), .val (.int (0 : Int32)), .val (.ref b), .val (.int (0 : Int32)), .val (.int (2 : Int32)), .unset, .unset]) (plainFor_of_name pn_8) hw Z0 (fun m => ef_rmU5_20 m ca (0 : Int32) b (0 : Int32) (2 : Int32)) ?_
  intro p e s m below meth c T C P
  have sz_b : b ∈ [b] ∨ h0.size ≤ b := Or.inl (by simp)
  refine k_iconst (z := (0 : Int32)) (pc' := 1) C P d8_0 rfl rfl ?_
  refine k_istore (l' := #[.val (.ref ca), .val (.int (0 : Int32)), .val (.ref b), .val (.int (0 : Int32)), .val (.int (2 : Int32)), .val (.int (0 : Int32)), .unset]) (pc' := 3) C P d8_1 rfl rfl ?_
  refine k_iload (pc' := 5) C P d8_3 rfl rfl ?_
  refine k_iload (pc' := 7) C P d8_5 rfl rfl ?_
  refine k_icN (pc' := 10) C P d8_7 (show (0 : Int32) < (2 : Int32) by decide) rfl ?_
  refine k_aloadN (pc' := 11) C P d8_10 rfl rfl rfl ?_
  refine k_iloadN (pc' := 12) C P d8_11 rfl rfl ?_
  refine k_caload (J := 0) (v := (.int c0)) (pc' := 13) C P VC d8_12 rfl (by decide) rfl rfl ?_
  refine k_istore (l' := #[.val (.ref ca), .val (.int (0 : Int32)), .val (.ref b), .val (.int (0 : Int32)), .val (.int (2 : Int32)), .val (.int (0 : Int32)), .val (.int c0)]) (pc' := 15) C P d8_13 rfl rfl ?_
  refine k_iload (pc' := 17) C P d8_15 rfl rfl ?_
  refine k_sipush (z := (255 : Int32)) (pc' := 20) C P d8_17 rfl rfl ?_
  refine k_icN (pc' := 23) C P d8_20 hi_ rfl ?_
  refine k_iload (pc' := 25) C P d8_23 rfl rfl ?_
  exact k_retI C P d8_25 (by decide) (by decide) rfl
theorem ef_rmU3_20 (m : MethodId) (x0 : Addr) (x1 : Int32) (x2 : Int32) : entryFrame m #[(.ref x0), (.int x1), (.int x2)] 6 = mkF m 0 #[.val (.ref x0), .val (.int x1), .val (.int x2), .unset, .unset, .unset] [] := by first | (simp [entryFrame, mkF, argsToLocals, Value.category]; done) | rfl
set_option maxRecDepth 65536 in
set_option maxHeartbeats 40000000 in
theorem rmU3_20 (l : Launch) (Z : State) (a0 : Array Value) (hw : ∀ d ∈ tables_1, d.before a0 Z = true) (h0 : Heap) (n0 : Nat) (Z0 : n0 ≤ h0.size) (c0 c1 : Int32) (hx : own_ch c0)  (hi_ : 255 < c0) (ca : Addr) (kc : ClassId) (VC : KVA Z h0 ca kc .char 2 (fun j => Value.int (if j = 0 then c0 else c1))) (SA : Sta Z h0 "java/lang/StringUTF16" "$assertionsDisabled" "Z" (.int 1)) (SH : Sta Z h0 "java/lang/StringUTF16" "HI_BYTE_SHIFT" "I" (.int 0)) (SL : Sta Z h0 "java/lang/StringUTF16" "LO_BYTE_SHIFT" "I" (.int 8)) :
    KCt false l (⟨"java/lang/StringUTF16", "compress", "([CII)[B"⟩ : MethodName) jdk_52_method_16_code 6 (some (.array .byte)) ({ frames := 4, cells := 2, slots := 12, locals := 80 } : Room) Z n0 h0 #[(.ref ca), (.int (0 : Int32)), (.int (2 : Int32))] [] (fun v h => ∃ (b : Addr) (kb : ClassId), v = some (.ref b) ∧ KVA Z h b kb .byte 4 (fun j => .int (if j = 2 then (own_lo c1) else if j = 3 then (own_hi c1) else if j = 0 then (own_lo c0) else if j = 1 then (own_hi c0) else (0 : Int32)))) := by
  refine k_enter (tbl := tables_1) (a0 := a0) (Ls := #[.val (.ref ca), .val (.int (0 : Int32)), .val (.int (2 : Int32)), .unset, .unset, .unset]) (plainFor_of_name pn_7) hw Z0 (fun m => ef_rmU3_20 m ca (0 : Int32) (2 : Int32)) ?_
  intro p e s m below meth c T C P
  refine k_iloadN (pc' := 1) C P d7_0 rfl rfl ?_
  refine k_newp (pc' := 3) (cells' := 1) (slots' := 4) (N := 2) (cap := 4) C P (C.w 17 rfl) d7_1 rfl (by decide) (by decide) rfl rfl (by decide) (by decide) rfl ?_
  intro T72 h72 b72 k72 P72 hs72 ge_b72 sz_b72 E72 V72
  have ne_ca_b72 : ca ≠ b72 := Nat.ne_of_lt (hs72 ▸ VC.lt)
  have f72_ca := VC.ext E72
  have f72_S__assertionsDisabled := Sta.ext E72 SA
  have f72_S_HI_BYTE_SHIFT := Sta.ext E72 SH
  have f72_S_LO_BYTE_SHIFT := Sta.ext E72 SL
  refine k_astoreN (l' := #[.val (.ref ca), .val (.int (0 : Int32)), .val (.int (2 : Int32)), .val (.ref b72), .unset, .unset]) (pc' := 4) C P72 d7_3 rfl rfl rfl ?_
  refine k_aloadN (pc' := 5) C P72 d7_4 rfl rfl rfl ?_
  refine k_iloadN (pc' := 6) C P72 d7_5 rfl rfl ?_
  refine k_aloadN (pc' := 7) C P72 d7_6 rfl rfl rfl ?_
  refine k_iconst (z := (0 : Int32)) (pc' := 8) C P72 d7_7 rfl rfl ?_
  refine k_iloadN (pc' := 9) C P72 d7_8 rfl rfl ?_
  refine k_callT (pc' := 12) (cells' := 1) (slots' := 4) (W := 0) C P72 (C.w 43 rfl) (C.w 44 rfl) (C.w 45 rfl) (C.w 41 rfl) (by decide) (rmU5_20 l Z a0 hw _ n0 P72.size c0 c1 hx  hi_ ca kc f72_ca b72 k72 V72 ge_b72) [(.ref ca), (.int (0 : Int32)), (.ref b72), (.int (0 : Int32)), (.int (2 : Int32))] [] rfl (lenOf pd_3 rfl) rfl (Nat.le_of_eq rfl) d7_9 rfl (by decide) (by decide) rfl rfl (by decide) (by decide) (allS (Or.inr sz_b72) all0) rfl ?_
  intro T73 h73 v73 P73 K73 Q73
  obtain rfl := Q73
  have f73_ca := f72_ca.keep K73 (ninS ne_ca_b72 nin0)
  have f73_S__assertionsDisabled := k_staKeep f72_S__assertionsDisabled K73 (k_nsS V72.ns k_ns0)
  have f73_S_HI_BYTE_SHIFT := k_staKeep f72_S_HI_BYTE_SHIFT K73 (k_nsS V72.ns k_ns0)
  have f73_S_LO_BYTE_SHIFT := k_staKeep f72_S_LO_BYTE_SHIFT K73 (k_nsS V72.ns k_ns0)
  show KGo p e below _ T73 m 12 #[.val (.ref ca), .val (.int (0 : Int32)), .val (.int (2 : Int32)), .val (.ref b72), .unset, .unset] [(.int (0 : Int32))]
  refine k_istore (l' := #[.val (.ref ca), .val (.int (0 : Int32)), .val (.int (2 : Int32)), .val (.ref b72), .val (.int (0 : Int32)), .unset]) (pc' := 14) C P73 d7_12 rfl rfl ?_
  refine k_iload (pc' := 16) C P73 d7_14 rfl rfl ?_
  refine k_iloadN (pc' := 17) C P73 d7_16 rfl rfl ?_
  refine k_icN (pc' := 20) C P73 d7_17 (show ¬ (0 : Int32) = (2 : Int32) by decide) rfl ?_
  refine k_aloadN (pc' := 21) C P73 d7_20 rfl rfl rfl ?_
  refine k_iloadN (pc' := 22) C P73 d7_21 rfl rfl ?_
  refine k_iloadN (pc' := 23) C P73 d7_22 rfl rfl ?_
  refine k_callT (pc' := 26) (cells' := 2) (slots' := 10) (W := 0) C P73 (C.w 71 rfl) (C.w 72 rfl) (C.w 73 rfl) (C.w 41 rfl) (by decide) (rmTB2 l Z a0 hw _ n0 P73.size c0 c1 ca kc f73_ca f73_S__assertionsDisabled f73_S_HI_BYTE_SHIFT f73_S_LO_BYTE_SHIFT) [(.ref ca), (.int (0 : Int32)), (.int (2 : Int32))] [] rfl (lenOf pd_4 rfl) rfl (Nat.le_of_eq rfl) d7_23 rfl (by decide) (by decide) rfl rfl (by decide) (by decide) all0 rfl ?_
  intro T74 h74 v74 P74 K74 Q74
  obtain ⟨y, ky, rfl, V74_⟩ := Q74
  have f74_ca := f73_ca.keep K74 nin0
  have f74_S__assertionsDisabled := k_staKeep f73_S__assertionsDisabled K74 k_ns0
  have f74_S_HI_BYTE_SHIFT := k_staKeep f73_S_HI_BYTE_SHIFT K74 k_ns0
  have f74_S_LO_BYTE_SHIFT := k_staKeep f73_S_LO_BYTE_SHIFT K74 k_ns0
  show KGo p e below _ T74 m 26 #[.val (.ref ca), .val (.int (0 : Int32)), .val (.int (2 : Int32)), .val (.ref b72), .val (.int (0 : Int32)), .unset] [(.ref y)]
  refine k_astore (l' := #[.val (.ref ca), .val (.int (0 : Int32)), .val (.int (2 : Int32)), .val (.ref b72), .val (.int (0 : Int32)), .val (.ref y)]) (pc' := 28) C P74 d7_26 rfl rfl rfl ?_
  refine k_aload (pc' := 30) C P74 d7_28 rfl rfl rfl ?_
  refine k_iload (pc' := 32) C P74 d7_30 rfl rfl ?_
  refine k_callT (pc' := 35) (cells' := 2) (slots' := 10) (W := 0) C P74 (C.w 87 rfl) (C.w 88 rfl) (C.w 89 rfl) (C.w 41 rfl) (by decide) (rmGC0 l Z a0 hw _ n0 P74.size y ky 4 (by decide) (fun j => if j = 2 then (own_lo c1) else if j = 3 then (own_hi c1) else if j = 0 then (own_lo c0) else if j = 1 then (own_hi c0) else (0 : Int32)) c0 hx rfl rfl f74_S__assertionsDisabled f74_S_HI_BYTE_SHIFT f74_S_LO_BYTE_SHIFT V74_) [(.ref y), (.int (0 : Int32))] [] rfl (lenOf pd_7 rfl) rfl (Nat.le_of_eq rfl) d7_32 rfl (by decide) (by decide) rfl rfl (by decide) (by decide) all0 rfl ?_
  intro T75 h75 v75 P75 K75 Q75
  obtain ⟨e75, g75⟩ := Q75
  subst g75
  subst e75
  show KGo p e below _ T75 m 35 #[.val (.ref ca), .val (.int (0 : Int32)), .val (.int (2 : Int32)), .val (.ref b72), .val (.int (0 : Int32)), .val (.ref y)] [(.int c0)]
  refine k_sipush (z := (255 : Int32)) (pc' := 38) C P75 d7_35 rfl rfl ?_
  refine k_icY (pc' := 54) C P75 d7_38 hi_ (by decide) (by decide) ?_
  refine k_aload (pc' := 56) C P75 d7_54 rfl rfl rfl ?_
  exact k_retA C P75 d7_56 rfl rfl (by decide) (by decide) ⟨_, _, rfl, V74_⟩
theorem ef_rmUI_20 (m : MethodId) (x0 : Addr) (x1 : Addr) (x2 : Int32) (x3 : Int32) : entryFrame m #[(.ref x0), (.ref x1), (.int x2), (.int x3), .null] 6 = mkF m 0 #[.val (.ref x0), .val (.ref x1), .val (.int x2), .val (.int x3), .val .null, .unset] [] := by first | (simp [entryFrame, mkF, argsToLocals, Value.category]; done) | rfl
set_option maxRecDepth 65536 in
set_option maxHeartbeats 40000000 in
theorem rmUI_20 (l : Launch) (Z : State) (a0 : Array Value) (hw : ∀ d ∈ tables_1, d.before a0 Z = true) (h0 : Heap) (n0 : Nat) (Z0 : n0 ≤ h0.size) (c0 c1 : Int32) (hx : own_ch c0)  (hi_ : 255 < c0) (ca : Addr) (kc : ClassId) (VC : KVA Z h0 ca kc .char 2 (fun j => Value.int (if j = 0 then c0 else c1))) (a : Addr) (ge_a : n0 ≤ a) (F : KOb Z h0 a "java/lang/String" layS [.int 0, .null]) (cs : Int32) (hcs : ¬ cs = 0) (SC : Sta Z h0 "java/lang/String" "COMPACT_STRINGS" "Z" (.int cs)) (SA : Sta Z h0 "java/lang/StringUTF16" "$assertionsDisabled" "Z" (.int 1)) (SH : Sta Z h0 "java/lang/StringUTF16" "HI_BYTE_SHIFT" "I" (.int 0)) (SL : Sta Z h0 "java/lang/StringUTF16" "LO_BYTE_SHIFT" "I" (.int 8)) :
    KCt false l (⟨"java/lang/String", "<init>", "([CIILjava/lang/Void;)V"⟩ : MethodName) jdk_42_method_149_code 6 none ({ frames := 5, cells := 2, slots := 12, locals := 110 } : Room) Z n0 h0 #[(.ref a), (.ref ca), (.int (0 : Int32)), (.int (2 : Int32)), .null] [a] (fun v h => v = none ∧ ∃ (b : Addr) (kb : ClassId), KOb Z h a "java/lang/String" layS [.int 1, .ref b] ∧ KVA Z h b kb .byte 4 (fun j => .int (if j = 2 then (own_lo c1) else if j = 3 then (own_hi c1) else if j = 0 then (own_lo c0) else if j = 1 then (own_hi c0) else (0 : Int32)))) := by
  refine k_enter (tbl := tables_1) (a0 := a0) (Ls := #[.val (.ref a), .val (.ref ca), .val (.int (0 : Int32)), .val (.int (2 : Int32)), .val .null, .unset]) (plainFor_of_name pn_2) hw Z0 (fun m => ef_rmUI_20 m a ca (0 : Int32) (2 : Int32)) ?_
  intro p e s m below meth c T C P
  have sz_a : a ∈ [a] ∨ h0.size ≤ a := Or.inl (by simp)
  refine k_aloadN (pc' := 1) C P d2_0 rfl rfl rfl ?_
  refine k_initObj (pc' := 4) (W := 0) C P (C.w 13 rfl) (C.w 14 rfl) (C.w 15 rfl) d2_1 rfl (by decide) (by decide) (by decide) rfl ?_
  intro T76 P76
  refine k_iloadN (pc' := 5) C P76 d2_4 rfl rfl ?_
  refine k_ifY (pc' := 27) C P76 d2_5 (show ¬ (2 : Int32) = (0 : Int32) by decide) (by decide) (by decide) ?_
  refine k_gets (pc' := 30) C P76 (C.w 38 rfl) Via.refl SC d2_27 rfl ?_
  intro T77 P77
  refine k_ifN (pc' := 33) C P77 d2_30 hcs rfl ?_
  refine k_aloadN (pc' := 34) C P77 d2_33 rfl rfl rfl ?_
  refine k_iloadN (pc' := 35) C P77 d2_34 rfl rfl ?_
  refine k_iloadN (pc' := 36) C P77 d2_35 rfl rfl ?_
  refine k_callT (pc' := 39) (cells' := 2) (slots' := 12) (W := 0) C P77 (C.w 39 rfl) (C.w 40 rfl) (C.w 42 rfl) (C.w 41 rfl) (by decide) (rmU3_20 l Z a0 hw _ n0 P77.size c0 c1 hx  hi_ ca kc VC SA SH SL) [(.ref ca), (.int (0 : Int32)), (.int (2 : Int32))] [] rfl (lenOf pd_4 rfl) rfl (Nat.le_of_eq rfl) d2_36 rfl (by decide) (by decide) rfl rfl (by decide) (by decide) all0 rfl ?_
  intro T78 h78 v78 P78 K78 Q78
  obtain ⟨b, kb, rfl, V78_⟩ := Q78
  have f78_a := F.keep K78 nin0
  have f78_ca := VC.keep K78 nin0
  have f78_S_COMPACT_STRINGS := k_staKeep SC K78 k_ns0
  have f78_S__assertionsDisabled := k_staKeep SA K78 k_ns0
  have f78_S_HI_BYTE_SHIFT := k_staKeep SH K78 k_ns0
  have f78_S_LO_BYTE_SHIFT := k_staKeep SL K78 k_ns0
  show KGo p e below _ T78 m 39 #[.val (.ref a), .val (.ref ca), .val (.int (0 : Int32)), .val (.int (2 : Int32)), .val .null, .unset] [(.ref b)]
  refine k_astore (l' := #[.val (.ref a), .val (.ref ca), .val (.int (0 : Int32)), .val (.int (2 : Int32)), .val .null, .val (.ref b)]) (pc' := 41) C P78 d2_39 rfl rfl rfl ?_
  refine k_aloadN (pc' := 42) C P78 d2_41 rfl rfl rfl ?_
  refine k_aload (pc' := 44) C P78 d2_42 rfl rfl rfl ?_
  refine k_iloadN (pc' := 45) C P78 d2_44 rfl rfl ?_
  refine k_callT (pc' := 48) (cells' := 2) (slots' := 12) (W := 1) C P78 (C.w 46 rfl) (C.w 47 rfl) (C.w 48 rfl) (C.w 41 rfl) (by decide) (rmCU_2 l Z a0 hw _ n0 P78.size b kb _ V78_) [(.ref b), (.int (2 : Int32))] [(.ref a)] rfl (lenOf pd_5 rfl) rfl (Nat.le_of_eq rfl) d2_45 rfl (by decide) (by decide) rfl rfl (by decide) (by decide) all0 rfl ?_
  intro T79 h79 v79 P79 K79 Q79
  obtain ⟨e79, g79⟩ := Q79
  subst g79
  subst e79
  show KGo p e below _ T79 m 48 #[.val (.ref a), .val (.ref ca), .val (.int (0 : Int32)), .val (.int (2 : Int32)), .val .null, .val (.ref b)] [(.int (1 : Int32)), (.ref a)]
  refine k_putf (pc' := 51) (ty := .byte) (v' := (.int (1 : Int32))) C P79 (C.w 23 rfl) Via.refl f78_a 0 rfl (Or.inr ⟨(C.w 19 rfl), rfl, rfl⟩) (C.w 4 rfl) (by decide) rfl rfl d2_48 ge_a sz_a rfl ?_
  intro T80 h80 P80 W80
  have f80_a : KOb Z h80 a "java/lang/String" layS [(.int (1 : Int32)), .null] := f78_a.put (lokS C.hw) 0 rfl W80 rfl
  have f80_ca := f78_ca.other W80 (f78_ca.ne_ob f78_a.exa (C.w 4 rfl))
  have f80_S_COMPACT_STRINGS := Sta.wr W80 f78_S_COMPACT_STRINGS
  have f80_S__assertionsDisabled := Sta.wr W80 f78_S__assertionsDisabled
  have f80_S_HI_BYTE_SHIFT := Sta.wr W80 f78_S_HI_BYTE_SHIFT
  have f80_S_LO_BYTE_SHIFT := Sta.wr W80 f78_S_LO_BYTE_SHIFT
  have f80_b := V78_.other W80 (V78_.ne_ob f78_a.exa (C.w 4 rfl))
  refine k_aloadN (pc' := 52) C P80 d2_51 rfl rfl rfl ?_
  refine k_aload (pc' := 54) C P80 d2_52 rfl rfl rfl ?_
  refine k_putf (pc' := 57) (ty := (.array .byte)) (v' := (.ref b)) C P80 (C.w 22 rfl) Via.refl f80_a 1 rfl (Or.inr ⟨(C.w 18 rfl), rfl, rfl⟩) (C.w 4 rfl) (by decide) rfl rfl d2_54 ge_a sz_a rfl ?_
  intro T81 h81 P81 W81
  have f81_a : KOb Z h81 a "java/lang/String" layS [(.int (1 : Int32)), (.ref b)] := f80_a.put (lokS C.hw) 1 rfl W81 rfl
  have f81_ca := f80_ca.other W81 (f80_ca.ne_ob f80_a.exa (C.w 4 rfl))
  have f81_S_COMPACT_STRINGS := Sta.wr W81 f80_S_COMPACT_STRINGS
  have f81_S__assertionsDisabled := Sta.wr W81 f80_S__assertionsDisabled
  have f81_S_HI_BYTE_SHIFT := Sta.wr W81 f80_S_HI_BYTE_SHIFT
  have f81_S_LO_BYTE_SHIFT := Sta.wr W81 f80_S_LO_BYTE_SHIFT
  have f81_b := f80_b.other W81 (f80_b.ne_ob f80_a.exa (C.w 4 rfl))
  exact k_retV C P81 d2_57 (by decide) (by decide) ⟨rfl, b, kb, f81_a, f81_b⟩
theorem ef_rmUN_20 (m : MethodId) (x0 : Addr) (x1 : Addr) : entryFrame m #[(.ref x0), (.ref x1)] 2 = mkF m 0 #[.val (.ref x0), .val (.ref x1)] [] := by first | (simp [entryFrame, mkF, argsToLocals, Value.category]; done) | rfl
set_option maxRecDepth 65536 in
set_option maxHeartbeats 40000000 in
theorem rmUN_20 (l : Launch) (Z : State) (a0 : Array Value) (hw : ∀ d ∈ tables_1, d.before a0 Z = true) (h0 : Heap) (n0 : Nat) (Z0 : n0 ≤ h0.size) (c0 c1 : Int32) (hx : own_ch c0)  (hi_ : 255 < c0) (ca : Addr) (kc : ClassId) (VC : KVA Z h0 ca kc .char 2 (fun j => Value.int (if j = 0 then c0 else c1))) (a : Addr) (ge_a : n0 ≤ a) (F : KOb Z h0 a "java/lang/String" layS [.int 0, .null]) (cs : Int32) (hcs : ¬ cs = 0) (SC : Sta Z h0 "java/lang/String" "COMPACT_STRINGS" "Z" (.int cs)) (SA : Sta Z h0 "java/lang/StringUTF16" "$assertionsDisabled" "Z" (.int 1)) (SH : Sta Z h0 "java/lang/StringUTF16" "HI_BYTE_SHIFT" "I" (.int 0)) (SL : Sta Z h0 "java/lang/StringUTF16" "LO_BYTE_SHIFT" "I" (.int 8)) :
    KCt false l (⟨"java/lang/String", "<init>", "([C)V"⟩ : MethodName) jdk_42_method_3_code 2 none ({ frames := 6, cells := 2, slots := 12, locals := 140 } : Room) Z n0 h0 #[(.ref a), (.ref ca)] [a] (fun v h => v = none ∧ ∃ (b : Addr) (kb : ClassId), KOb Z h a "java/lang/String" layS [.int 1, .ref b] ∧ KVA Z h b kb .byte 4 (fun j => .int (if j = 2 then (own_lo c1) else if j = 3 then (own_hi c1) else if j = 0 then (own_lo c0) else if j = 1 then (own_hi c0) else (0 : Int32)))) := by
  refine k_enter (tbl := tables_1) (a0 := a0) (Ls := #[.val (.ref a), .val (.ref ca)]) (plainFor_of_name pn_1) hw Z0 (fun m => ef_rmUN_20 m a ca) ?_
  intro p e s m below meth c T C P
  have sz_a : a ∈ [a] ∨ h0.size ≤ a := Or.inl (by simp)
  refine k_aloadN (pc' := 1) C P d1_0 rfl rfl rfl ?_
  refine k_aloadN (pc' := 2) C P d1_1 rfl rfl rfl ?_
  refine k_iconst (z := (0 : Int32)) (pc' := 3) C P d1_2 rfl rfl ?_
  refine k_aloadN (pc' := 4) C P d1_3 rfl rfl rfl ?_
  refine k_arrlen (z := (2 : Int32)) (pc' := 5) C P VC d1_4 rfl rfl ?_
  refine k_aconstNull (pc' := 6) C P d1_5 rfl ?_
  refine k_callN (pc' := 9) (cells' := 2) (slots' := 12) (W := 0) C P rfl (C.w 9 rfl) (C.w 10 rfl) (C.w 12 rfl) (C.w 5 rfl) (by decide) (rmUI_20 l Z a0 hw _ n0 P.size c0 c1 hx  hi_ ca kc VC a ge_a F cs hcs SC SA SH SL) a [(.ref ca), (.int (0 : Int32)), (.int (2 : Int32)), .null] [] rfl (lenOf pd_6 rfl) rfl (Nat.le_of_eq rfl) d1_6 rfl (by decide) (by decide) rfl rfl (by decide) (by decide) (allS sz_a all0) rfl ?_
  intro T82 h82 v82 P82 K82 Q82
  obtain ⟨rfl, b, kb, F82_, V82_⟩ := Q82
  have f82_ca := VC.keep K82 (ninS (VC.ne_ob F.exa (C.w 4 rfl)) nin0)
  have f82_S_COMPACT_STRINGS := k_staKeep SC K82 (k_nsS F.ns k_ns0)
  have f82_S__assertionsDisabled := k_staKeep SA K82 (k_nsS F.ns k_ns0)
  have f82_S_HI_BYTE_SHIFT := k_staKeep SH K82 (k_nsS F.ns k_ns0)
  have f82_S_LO_BYTE_SHIFT := k_staKeep SL K82 (k_nsS F.ns k_ns0)
  show KGo p e below _ T82 m 9 #[.val (.ref a), .val (.ref ca)] []
  exact k_retV C P82 d1_9 (by decide) (by decide) ⟨rfl, b, kb, F82_, V82_⟩
theorem ef_rmU5_21 (m : MethodId) (x0 : Addr) (x1 : Int32) (x2 : Addr) (x3 : Int32) (x4 : Int32) : entryFrame m #[(.ref x0), (.int x1), (.ref x2), (.int x3), (.int x4)] 7 = mkF m 0 #[.val (.ref x0), .val (.int x1), .val (.ref x2), .val (.int x3), .val (.int x4), .unset, .unset] [] := by first | (simp [entryFrame, mkF, argsToLocals, Value.category]; done) | rfl
set_option maxRecDepth 65536 in
set_option maxHeartbeats 40000000 in
theorem rmU5_21 (l : Launch) (Z : State) (a0 : Array Value) (hw : ∀ d ∈ tables_1, d.before a0 Z = true) (h0 : Heap) (n0 : Nat) (Z0 : n0 ≤ h0.size) (c0 c1 : Int32) (hx : own_ch c1) (hc0_ : ¬ 255 < c0) (hi_ : 255 < c1) (ca : Addr) (kc : ClassId) (VC : KVA Z h0 ca kc .char 2 (fun j => Value.int (if j = 0 then c0 else c1))) (b : Addr) (kb : ClassId) (VB : KVA Z h0 b kb .byte 2 (fun _ => .int 0)) (ge_b : n0 ≤ b) :
    KCt false l (⟨"java/lang/StringUTF16", "compress", "([CI[BII)I"⟩ : MethodName) jdk_52_method_21_code 7 (some .int) ({ frames := 0, cells := 0, slots := 0, locals := 0 } : Room) Z n0 h0 #[(.ref ca), (.int (0 : Int32)), (.ref b), (.int (0 : Int32)), (.int (2 : Int32))] [b] (fun v h => v = some (.int 1)) := by
  refine k_enter (tbl := tables_1) (a0 := a0) (Ls := #[.val (.ref ca), .val (.int (0 : Int32)), .val (.ref b), .val (.int (0 : Int32)), .val (.int (2 : Int32)), .unset, .unset]) (plainFor_of_name pn_8) hw Z0 (fun m => ef_rmU5_21 m ca (0 : Int32) b (0 : Int32) (2 : Int32)) ?_
  intro p e s m below meth c T C P
  have sz_b : b ∈ [b] ∨ h0.size ≤ b := Or.inl (by simp)
  refine k_iconst (z := (0 : Int32)) (pc' := 1) C P d8_0 rfl rfl ?_
  refine k_istore (l' := #[.val (.ref ca), .val (.int (0 : Int32)), .val (.ref b), .val (.int (0 : Int32)), .val (.int (2 : Int32)), .val (.int (0 : Int32)), .unset]) (pc' := 3) C P d8_1 rfl rfl ?_
  refine k_iload (pc' := 5) C P d8_3 rfl rfl ?_
  refine k_iload (pc' := 7) C P d8_5 rfl rfl ?_
  refine k_icN (pc' := 10) C P d8_7 (show (0 : Int32) < (2 : Int32) by decide) rfl ?_
  refine k_aloadN (pc' := 11) C P d8_10 rfl rfl rfl ?_
  refine k_iloadN (pc' := 12) C P d8_11 rfl rfl ?_
  refine k_caload (J := 0) (v := (.int c0)) (pc' := 13) C P VC d8_12 rfl (by decide) rfl rfl ?_
  refine k_istore (l' := #[.val (.ref ca), .val (.int (0 : Int32)), .val (.ref b), .val (.int (0 : Int32)), .val (.int (2 : Int32)), .val (.int (0 : Int32)), .val (.int c0)]) (pc' := 15) C P d8_13 rfl rfl ?_
  refine k_iload (pc' := 17) C P d8_15 rfl rfl ?_
  refine k_sipush (z := (255 : Int32)) (pc' := 20) C P d8_17 rfl rfl ?_
  refine k_icY (pc' := 26) C P d8_20 hc0_ (by decide) (by decide) ?_
  refine k_aloadN (pc' := 27) C P d8_26 rfl rfl rfl ?_
  refine k_iloadN (pc' := 28) C P d8_27 rfl rfl ?_
  refine k_iload (pc' := 30) C P d8_28 rfl rfl ?_
  refine k_i2b (pc' := 31) C P d8_30 rfl ?_
  refine k_bastore (J := 0) (g' := _) (pc' := 32) C P VB d8_31 rfl (by decide) (fun i _ => rfl) ge_b sz_b rfl ?_
  intro T83 h83 P83 W83 V83
  have f83_ca := VC.other W83 (KVA.neT VC VB nofun)
  refine k_iinc (z := (1 : Int32)) (l' := #[.val (.ref ca), .val (.int (1 : Int32)), .val (.ref b), .val (.int (0 : Int32)), .val (.int (2 : Int32)), .val (.int (0 : Int32)), .val (.int c0)]) (pc' := 35) C P83 d8_32 rfl rfl rfl rfl ?_
  refine k_iinc (z := (1 : Int32)) (l' := #[.val (.ref ca), .val (.int (1 : Int32)), .val (.ref b), .val (.int (1 : Int32)), .val (.int (2 : Int32)), .val (.int (0 : Int32)), .val (.int c0)]) (pc' := 38) C P83 d8_35 rfl rfl rfl rfl ?_
  refine k_iinc (z := (1 : Int32)) (l' := #[.val (.ref ca), .val (.int (1 : Int32)), .val (.ref b), .val (.int (1 : Int32)), .val (.int (2 : Int32)), .val (.int (1 : Int32)), .val (.int c0)]) (pc' := 41) C P83 d8_38 rfl rfl rfl rfl ?_
  refine k_goto (pc' := 3) C P83 d8_41 (by decide) (by decide) ?_
  refine k_iload (pc' := 5) C P83 d8_3 rfl rfl ?_
  refine k_iload (pc' := 7) C P83 d8_5 rfl rfl ?_
  refine k_icN (pc' := 10) C P83 d8_7 (show (1 : Int32) < (2 : Int32) by decide) rfl ?_
  refine k_aloadN (pc' := 11) C P83 d8_10 rfl rfl rfl ?_
  refine k_iloadN (pc' := 12) C P83 d8_11 rfl rfl ?_
  refine k_caload (J := 1) (v := (.int c1)) (pc' := 13) C P83 f83_ca d8_12 rfl (by decide) rfl rfl ?_
  refine k_istore (l' := #[.val (.ref ca), .val (.int (1 : Int32)), .val (.ref b), .val (.int (1 : Int32)), .val (.int (2 : Int32)), .val (.int (1 : Int32)), .val (.int c1)]) (pc' := 15) C P83 d8_13 rfl rfl ?_
  refine k_iload (pc' := 17) C P83 d8_15 rfl rfl ?_
  refine k_sipush (z := (255 : Int32)) (pc' := 20) C P83 d8_17 rfl rfl ?_
  refine k_icN (pc' := 23) C P83 d8_20 hi_ rfl ?_
  refine k_iload (pc' := 25) C P83 d8_23 rfl rfl ?_
  exact k_retI C P83 d8_25 (by decide) (by decide) rfl
theorem ef_rmU3_21 (m : MethodId) (x0 : Addr) (x1 : Int32) (x2 : Int32) : entryFrame m #[(.ref x0), (.int x1), (.int x2)] 6 = mkF m 0 #[.val (.ref x0), .val (.int x1), .val (.int x2), .unset, .unset, .unset] [] := by first | (simp [entryFrame, mkF, argsToLocals, Value.category]; done) | rfl
set_option maxRecDepth 65536 in
set_option maxHeartbeats 40000000 in
theorem rmU3_21 (l : Launch) (Z : State) (a0 : Array Value) (hw : ∀ d ∈ tables_1, d.before a0 Z = true) (h0 : Heap) (n0 : Nat) (Z0 : n0 ≤ h0.size) (c0 c1 : Int32) (hx : own_ch c1) (hc0_ : ¬ 255 < c0) (hi_ : 255 < c1) (ca : Addr) (kc : ClassId) (VC : KVA Z h0 ca kc .char 2 (fun j => Value.int (if j = 0 then c0 else c1))) (SA : Sta Z h0 "java/lang/StringUTF16" "$assertionsDisabled" "Z" (.int 1)) (SH : Sta Z h0 "java/lang/StringUTF16" "HI_BYTE_SHIFT" "I" (.int 0)) (SL : Sta Z h0 "java/lang/StringUTF16" "LO_BYTE_SHIFT" "I" (.int 8)) :
    KCt false l (⟨"java/lang/StringUTF16", "compress", "([CII)[B"⟩ : MethodName) jdk_52_method_16_code 6 (some (.array .byte)) ({ frames := 4, cells := 2, slots := 12, locals := 80 } : Room) Z n0 h0 #[(.ref ca), (.int (0 : Int32)), (.int (2 : Int32))] [] (fun v h => ∃ (b : Addr) (kb : ClassId), v = some (.ref b) ∧ KVA Z h b kb .byte 4 (fun j => .int (if j = 2 then (own_lo c1) else if j = 3 then (own_hi c1) else if j = 0 then (own_lo c0) else if j = 1 then (own_hi c0) else (0 : Int32)))) := by
  refine k_enter (tbl := tables_1) (a0 := a0) (Ls := #[.val (.ref ca), .val (.int (0 : Int32)), .val (.int (2 : Int32)), .unset, .unset, .unset]) (plainFor_of_name pn_7) hw Z0 (fun m => ef_rmU3_21 m ca (0 : Int32) (2 : Int32)) ?_
  intro p e s m below meth c T C P
  refine k_iloadN (pc' := 1) C P d7_0 rfl rfl ?_
  refine k_newp (pc' := 3) (cells' := 1) (slots' := 4) (N := 2) (cap := 4) C P (C.w 17 rfl) d7_1 rfl (by decide) (by decide) rfl rfl (by decide) (by decide) rfl ?_
  intro T84 h84 b84 k84 P84 hs84 ge_b84 sz_b84 E84 V84
  have ne_ca_b84 : ca ≠ b84 := Nat.ne_of_lt (hs84 ▸ VC.lt)
  have f84_ca := VC.ext E84
  have f84_S__assertionsDisabled := Sta.ext E84 SA
  have f84_S_HI_BYTE_SHIFT := Sta.ext E84 SH
  have f84_S_LO_BYTE_SHIFT := Sta.ext E84 SL
  refine k_astoreN (l' := #[.val (.ref ca), .val (.int (0 : Int32)), .val (.int (2 : Int32)), .val (.ref b84), .unset, .unset]) (pc' := 4) C P84 d7_3 rfl rfl rfl ?_
  refine k_aloadN (pc' := 5) C P84 d7_4 rfl rfl rfl ?_
  refine k_iloadN (pc' := 6) C P84 d7_5 rfl rfl ?_
  refine k_aloadN (pc' := 7) C P84 d7_6 rfl rfl rfl ?_
  refine k_iconst (z := (0 : Int32)) (pc' := 8) C P84 d7_7 rfl rfl ?_
  refine k_iloadN (pc' := 9) C P84 d7_8 rfl rfl ?_
  refine k_callT (pc' := 12) (cells' := 1) (slots' := 4) (W := 0) C P84 (C.w 43 rfl) (C.w 44 rfl) (C.w 45 rfl) (C.w 41 rfl) (by decide) (rmU5_21 l Z a0 hw _ n0 P84.size c0 c1 hx hc0_ hi_ ca kc f84_ca b84 k84 V84 ge_b84) [(.ref ca), (.int (0 : Int32)), (.ref b84), (.int (0 : Int32)), (.int (2 : Int32))] [] rfl (lenOf pd_3 rfl) rfl (Nat.le_of_eq rfl) d7_9 rfl (by decide) (by decide) rfl rfl (by decide) (by decide) (allS (Or.inr sz_b84) all0) rfl ?_
  intro T85 h85 v85 P85 K85 Q85
  obtain rfl := Q85
  have f85_ca := f84_ca.keep K85 (ninS ne_ca_b84 nin0)
  have f85_S__assertionsDisabled := k_staKeep f84_S__assertionsDisabled K85 (k_nsS V84.ns k_ns0)
  have f85_S_HI_BYTE_SHIFT := k_staKeep f84_S_HI_BYTE_SHIFT K85 (k_nsS V84.ns k_ns0)
  have f85_S_LO_BYTE_SHIFT := k_staKeep f84_S_LO_BYTE_SHIFT K85 (k_nsS V84.ns k_ns0)
  show KGo p e below _ T85 m 12 #[.val (.ref ca), .val (.int (0 : Int32)), .val (.int (2 : Int32)), .val (.ref b84), .unset, .unset] [(.int (1 : Int32))]
  refine k_istore (l' := #[.val (.ref ca), .val (.int (0 : Int32)), .val (.int (2 : Int32)), .val (.ref b84), .val (.int (1 : Int32)), .unset]) (pc' := 14) C P85 d7_12 rfl rfl ?_
  refine k_iload (pc' := 16) C P85 d7_14 rfl rfl ?_
  refine k_iloadN (pc' := 17) C P85 d7_16 rfl rfl ?_
  refine k_icN (pc' := 20) C P85 d7_17 (show ¬ (1 : Int32) = (2 : Int32) by decide) rfl ?_
  refine k_aloadN (pc' := 21) C P85 d7_20 rfl rfl rfl ?_
  refine k_iloadN (pc' := 22) C P85 d7_21 rfl rfl ?_
  refine k_iloadN (pc' := 23) C P85 d7_22 rfl rfl ?_
  refine k_callT (pc' := 26) (cells' := 2) (slots' := 10) (W := 0) C P85 (C.w 71 rfl) (C.w 72 rfl) (C.w 73 rfl) (C.w 41 rfl) (by decide) (rmTB2 l Z a0 hw _ n0 P85.size c0 c1 ca kc f85_ca f85_S__assertionsDisabled f85_S_HI_BYTE_SHIFT f85_S_LO_BYTE_SHIFT) [(.ref ca), (.int (0 : Int32)), (.int (2 : Int32))] [] rfl (lenOf pd_4 rfl) rfl (Nat.le_of_eq rfl) d7_23 rfl (by decide) (by decide) rfl rfl (by decide) (by decide) all0 rfl ?_
  intro T86 h86 v86 P86 K86 Q86
  obtain ⟨y, ky, rfl, V86_⟩ := Q86
  have f86_ca := f85_ca.keep K86 nin0
  have f86_S__assertionsDisabled := k_staKeep f85_S__assertionsDisabled K86 k_ns0
  have f86_S_HI_BYTE_SHIFT := k_staKeep f85_S_HI_BYTE_SHIFT K86 k_ns0
  have f86_S_LO_BYTE_SHIFT := k_staKeep f85_S_LO_BYTE_SHIFT K86 k_ns0
  show KGo p e below _ T86 m 26 #[.val (.ref ca), .val (.int (0 : Int32)), .val (.int (2 : Int32)), .val (.ref b84), .val (.int (1 : Int32)), .unset] [(.ref y)]
  refine k_astore (l' := #[.val (.ref ca), .val (.int (0 : Int32)), .val (.int (2 : Int32)), .val (.ref b84), .val (.int (1 : Int32)), .val (.ref y)]) (pc' := 28) C P86 d7_26 rfl rfl rfl ?_
  refine k_aload (pc' := 30) C P86 d7_28 rfl rfl rfl ?_
  refine k_iload (pc' := 32) C P86 d7_30 rfl rfl ?_
  refine k_callT (pc' := 35) (cells' := 2) (slots' := 10) (W := 0) C P86 (C.w 87 rfl) (C.w 88 rfl) (C.w 89 rfl) (C.w 41 rfl) (by decide) (rmGC1 l Z a0 hw _ n0 P86.size y ky 4 (by decide) (fun j => if j = 2 then (own_lo c1) else if j = 3 then (own_hi c1) else if j = 0 then (own_lo c0) else if j = 1 then (own_hi c0) else (0 : Int32)) c1 hx rfl rfl f86_S__assertionsDisabled f86_S_HI_BYTE_SHIFT f86_S_LO_BYTE_SHIFT V86_) [(.ref y), (.int (1 : Int32))] [] rfl (lenOf pd_7 rfl) rfl (Nat.le_of_eq rfl) d7_32 rfl (by decide) (by decide) rfl rfl (by decide) (by decide) all0 rfl ?_
  intro T87 h87 v87 P87 K87 Q87
  obtain ⟨e87, g87⟩ := Q87
  subst g87
  subst e87
  show KGo p e below _ T87 m 35 #[.val (.ref ca), .val (.int (0 : Int32)), .val (.int (2 : Int32)), .val (.ref b84), .val (.int (1 : Int32)), .val (.ref y)] [(.int c1)]
  refine k_sipush (z := (255 : Int32)) (pc' := 38) C P87 d7_35 rfl rfl ?_
  refine k_icY (pc' := 54) C P87 d7_38 hi_ (by decide) (by decide) ?_
  refine k_aload (pc' := 56) C P87 d7_54 rfl rfl rfl ?_
  exact k_retA C P87 d7_56 rfl rfl (by decide) (by decide) ⟨_, _, rfl, V86_⟩
theorem ef_rmUI_21 (m : MethodId) (x0 : Addr) (x1 : Addr) (x2 : Int32) (x3 : Int32) : entryFrame m #[(.ref x0), (.ref x1), (.int x2), (.int x3), .null] 6 = mkF m 0 #[.val (.ref x0), .val (.ref x1), .val (.int x2), .val (.int x3), .val .null, .unset] [] := by first | (simp [entryFrame, mkF, argsToLocals, Value.category]; done) | rfl
set_option maxRecDepth 65536 in
set_option maxHeartbeats 40000000 in
theorem rmUI_21 (l : Launch) (Z : State) (a0 : Array Value) (hw : ∀ d ∈ tables_1, d.before a0 Z = true) (h0 : Heap) (n0 : Nat) (Z0 : n0 ≤ h0.size) (c0 c1 : Int32) (hx : own_ch c1) (hc0_ : ¬ 255 < c0) (hi_ : 255 < c1) (ca : Addr) (kc : ClassId) (VC : KVA Z h0 ca kc .char 2 (fun j => Value.int (if j = 0 then c0 else c1))) (a : Addr) (ge_a : n0 ≤ a) (F : KOb Z h0 a "java/lang/String" layS [.int 0, .null]) (cs : Int32) (hcs : ¬ cs = 0) (SC : Sta Z h0 "java/lang/String" "COMPACT_STRINGS" "Z" (.int cs)) (SA : Sta Z h0 "java/lang/StringUTF16" "$assertionsDisabled" "Z" (.int 1)) (SH : Sta Z h0 "java/lang/StringUTF16" "HI_BYTE_SHIFT" "I" (.int 0)) (SL : Sta Z h0 "java/lang/StringUTF16" "LO_BYTE_SHIFT" "I" (.int 8)) :
    KCt false l (⟨"java/lang/String", "<init>", "([CIILjava/lang/Void;)V"⟩ : MethodName) jdk_42_method_149_code 6 none ({ frames := 5, cells := 2, slots := 12, locals := 110 } : Room) Z n0 h0 #[(.ref a), (.ref ca), (.int (0 : Int32)), (.int (2 : Int32)), .null] [a] (fun v h => v = none ∧ ∃ (b : Addr) (kb : ClassId), KOb Z h a "java/lang/String" layS [.int 1, .ref b] ∧ KVA Z h b kb .byte 4 (fun j => .int (if j = 2 then (own_lo c1) else if j = 3 then (own_hi c1) else if j = 0 then (own_lo c0) else if j = 1 then (own_hi c0) else (0 : Int32)))) := by
  refine k_enter (tbl := tables_1) (a0 := a0) (Ls := #[.val (.ref a), .val (.ref ca), .val (.int (0 : Int32)), .val (.int (2 : Int32)), .val .null, .unset]) (plainFor_of_name pn_2) hw Z0 (fun m => ef_rmUI_21 m a ca (0 : Int32) (2 : Int32)) ?_
  intro p e s m below meth c T C P
  have sz_a : a ∈ [a] ∨ h0.size ≤ a := Or.inl (by simp)
  refine k_aloadN (pc' := 1) C P d2_0 rfl rfl rfl ?_
  refine k_initObj (pc' := 4) (W := 0) C P (C.w 13 rfl) (C.w 14 rfl) (C.w 15 rfl) d2_1 rfl (by decide) (by decide) (by decide) rfl ?_
  intro T88 P88
  refine k_iloadN (pc' := 5) C P88 d2_4 rfl rfl ?_
  refine k_ifY (pc' := 27) C P88 d2_5 (show ¬ (2 : Int32) = (0 : Int32) by decide) (by decide) (by decide) ?_
  refine k_gets (pc' := 30) C P88 (C.w 38 rfl) Via.refl SC d2_27 rfl ?_
  intro T89 P89
  refine k_ifN (pc' := 33) C P89 d2_30 hcs rfl ?_
  refine k_aloadN (pc' := 34) C P89 d2_33 rfl rfl rfl ?_
  refine k_iloadN (pc' := 35) C P89 d2_34 rfl rfl ?_
  refine k_iloadN (pc' := 36) C P89 d2_35 rfl rfl ?_
  refine k_callT (pc' := 39) (cells' := 2) (slots' := 12) (W := 0) C P89 (C.w 39 rfl) (C.w 40 rfl) (C.w 42 rfl) (C.w 41 rfl) (by decide) (rmU3_21 l Z a0 hw _ n0 P89.size c0 c1 hx hc0_ hi_ ca kc VC SA SH SL) [(.ref ca), (.int (0 : Int32)), (.int (2 : Int32))] [] rfl (lenOf pd_4 rfl) rfl (Nat.le_of_eq rfl) d2_36 rfl (by decide) (by decide) rfl rfl (by decide) (by decide) all0 rfl ?_
  intro T90 h90 v90 P90 K90 Q90
  obtain ⟨b, kb, rfl, V90_⟩ := Q90
  have f90_a := F.keep K90 nin0
  have f90_ca := VC.keep K90 nin0
  have f90_S_COMPACT_STRINGS := k_staKeep SC K90 k_ns0
  have f90_S__assertionsDisabled := k_staKeep SA K90 k_ns0
  have f90_S_HI_BYTE_SHIFT := k_staKeep SH K90 k_ns0
  have f90_S_LO_BYTE_SHIFT := k_staKeep SL K90 k_ns0
  show KGo p e below _ T90 m 39 #[.val (.ref a), .val (.ref ca), .val (.int (0 : Int32)), .val (.int (2 : Int32)), .val .null, .unset] [(.ref b)]
  refine k_astore (l' := #[.val (.ref a), .val (.ref ca), .val (.int (0 : Int32)), .val (.int (2 : Int32)), .val .null, .val (.ref b)]) (pc' := 41) C P90 d2_39 rfl rfl rfl ?_
  refine k_aloadN (pc' := 42) C P90 d2_41 rfl rfl rfl ?_
  refine k_aload (pc' := 44) C P90 d2_42 rfl rfl rfl ?_
  refine k_iloadN (pc' := 45) C P90 d2_44 rfl rfl ?_
  refine k_callT (pc' := 48) (cells' := 2) (slots' := 12) (W := 1) C P90 (C.w 46 rfl) (C.w 47 rfl) (C.w 48 rfl) (C.w 41 rfl) (by decide) (rmCU_2 l Z a0 hw _ n0 P90.size b kb _ V90_) [(.ref b), (.int (2 : Int32))] [(.ref a)] rfl (lenOf pd_5 rfl) rfl (Nat.le_of_eq rfl) d2_45 rfl (by decide) (by decide) rfl rfl (by decide) (by decide) all0 rfl ?_
  intro T91 h91 v91 P91 K91 Q91
  obtain ⟨e91, g91⟩ := Q91
  subst g91
  subst e91
  show KGo p e below _ T91 m 48 #[.val (.ref a), .val (.ref ca), .val (.int (0 : Int32)), .val (.int (2 : Int32)), .val .null, .val (.ref b)] [(.int (1 : Int32)), (.ref a)]
  refine k_putf (pc' := 51) (ty := .byte) (v' := (.int (1 : Int32))) C P91 (C.w 23 rfl) Via.refl f90_a 0 rfl (Or.inr ⟨(C.w 19 rfl), rfl, rfl⟩) (C.w 4 rfl) (by decide) rfl rfl d2_48 ge_a sz_a rfl ?_
  intro T92 h92 P92 W92
  have f92_a : KOb Z h92 a "java/lang/String" layS [(.int (1 : Int32)), .null] := f90_a.put (lokS C.hw) 0 rfl W92 rfl
  have f92_ca := f90_ca.other W92 (f90_ca.ne_ob f90_a.exa (C.w 4 rfl))
  have f92_S_COMPACT_STRINGS := Sta.wr W92 f90_S_COMPACT_STRINGS
  have f92_S__assertionsDisabled := Sta.wr W92 f90_S__assertionsDisabled
  have f92_S_HI_BYTE_SHIFT := Sta.wr W92 f90_S_HI_BYTE_SHIFT
  have f92_S_LO_BYTE_SHIFT := Sta.wr W92 f90_S_LO_BYTE_SHIFT
  have f92_b := V90_.other W92 (V90_.ne_ob f90_a.exa (C.w 4 rfl))
  refine k_aloadN (pc' := 52) C P92 d2_51 rfl rfl rfl ?_
  refine k_aload (pc' := 54) C P92 d2_52 rfl rfl rfl ?_
  refine k_putf (pc' := 57) (ty := (.array .byte)) (v' := (.ref b)) C P92 (C.w 22 rfl) Via.refl f92_a 1 rfl (Or.inr ⟨(C.w 18 rfl), rfl, rfl⟩) (C.w 4 rfl) (by decide) rfl rfl d2_54 ge_a sz_a rfl ?_
  intro T93 h93 P93 W93
  have f93_a : KOb Z h93 a "java/lang/String" layS [(.int (1 : Int32)), (.ref b)] := f92_a.put (lokS C.hw) 1 rfl W93 rfl
  have f93_ca := f92_ca.other W93 (f92_ca.ne_ob f92_a.exa (C.w 4 rfl))
  have f93_S_COMPACT_STRINGS := Sta.wr W93 f92_S_COMPACT_STRINGS
  have f93_S__assertionsDisabled := Sta.wr W93 f92_S__assertionsDisabled
  have f93_S_HI_BYTE_SHIFT := Sta.wr W93 f92_S_HI_BYTE_SHIFT
  have f93_S_LO_BYTE_SHIFT := Sta.wr W93 f92_S_LO_BYTE_SHIFT
  have f93_b := f92_b.other W93 (f92_b.ne_ob f92_a.exa (C.w 4 rfl))
  exact k_retV C P93 d2_57 (by decide) (by decide) ⟨rfl, b, kb, f93_a, f93_b⟩
theorem ef_rmUN_21 (m : MethodId) (x0 : Addr) (x1 : Addr) : entryFrame m #[(.ref x0), (.ref x1)] 2 = mkF m 0 #[.val (.ref x0), .val (.ref x1)] [] := by first | (simp [entryFrame, mkF, argsToLocals, Value.category]; done) | rfl
set_option maxRecDepth 65536 in
set_option maxHeartbeats 40000000 in
theorem rmUN_21 (l : Launch) (Z : State) (a0 : Array Value) (hw : ∀ d ∈ tables_1, d.before a0 Z = true) (h0 : Heap) (n0 : Nat) (Z0 : n0 ≤ h0.size) (c0 c1 : Int32) (hx : own_ch c1) (hc0_ : ¬ 255 < c0) (hi_ : 255 < c1) (ca : Addr) (kc : ClassId) (VC : KVA Z h0 ca kc .char 2 (fun j => Value.int (if j = 0 then c0 else c1))) (a : Addr) (ge_a : n0 ≤ a) (F : KOb Z h0 a "java/lang/String" layS [.int 0, .null]) (cs : Int32) (hcs : ¬ cs = 0) (SC : Sta Z h0 "java/lang/String" "COMPACT_STRINGS" "Z" (.int cs)) (SA : Sta Z h0 "java/lang/StringUTF16" "$assertionsDisabled" "Z" (.int 1)) (SH : Sta Z h0 "java/lang/StringUTF16" "HI_BYTE_SHIFT" "I" (.int 0)) (SL : Sta Z h0 "java/lang/StringUTF16" "LO_BYTE_SHIFT" "I" (.int 8)) :
    KCt false l (⟨"java/lang/String", "<init>", "([C)V"⟩ : MethodName) jdk_42_method_3_code 2 none ({ frames := 6, cells := 2, slots := 12, locals := 140 } : Room) Z n0 h0 #[(.ref a), (.ref ca)] [a] (fun v h => v = none ∧ ∃ (b : Addr) (kb : ClassId), KOb Z h a "java/lang/String" layS [.int 1, .ref b] ∧ KVA Z h b kb .byte 4 (fun j => .int (if j = 2 then (own_lo c1) else if j = 3 then (own_hi c1) else if j = 0 then (own_lo c0) else if j = 1 then (own_hi c0) else (0 : Int32)))) := by
  refine k_enter (tbl := tables_1) (a0 := a0) (Ls := #[.val (.ref a), .val (.ref ca)]) (plainFor_of_name pn_1) hw Z0 (fun m => ef_rmUN_21 m a ca) ?_
  intro p e s m below meth c T C P
  have sz_a : a ∈ [a] ∨ h0.size ≤ a := Or.inl (by simp)
  refine k_aloadN (pc' := 1) C P d1_0 rfl rfl rfl ?_
  refine k_aloadN (pc' := 2) C P d1_1 rfl rfl rfl ?_
  refine k_iconst (z := (0 : Int32)) (pc' := 3) C P d1_2 rfl rfl ?_
  refine k_aloadN (pc' := 4) C P d1_3 rfl rfl rfl ?_
  refine k_arrlen (z := (2 : Int32)) (pc' := 5) C P VC d1_4 rfl rfl ?_
  refine k_aconstNull (pc' := 6) C P d1_5 rfl ?_
  refine k_callN (pc' := 9) (cells' := 2) (slots' := 12) (W := 0) C P rfl (C.w 9 rfl) (C.w 10 rfl) (C.w 12 rfl) (C.w 5 rfl) (by decide) (rmUI_21 l Z a0 hw _ n0 P.size c0 c1 hx hc0_ hi_ ca kc VC a ge_a F cs hcs SC SA SH SL) a [(.ref ca), (.int (0 : Int32)), (.int (2 : Int32)), .null] [] rfl (lenOf pd_6 rfl) rfl (Nat.le_of_eq rfl) d1_6 rfl (by decide) (by decide) rfl rfl (by decide) (by decide) (allS sz_a all0) rfl ?_
  intro T94 h94 v94 P94 K94 Q94
  obtain ⟨rfl, b, kb, F94_, V94_⟩ := Q94
  have f94_ca := VC.keep K94 (ninS (VC.ne_ob F.exa (C.w 4 rfl)) nin0)
  have f94_S_COMPACT_STRINGS := k_staKeep SC K94 (k_nsS F.ns k_ns0)
  have f94_S__assertionsDisabled := k_staKeep SA K94 (k_nsS F.ns k_ns0)
  have f94_S_HI_BYTE_SHIFT := k_staKeep SH K94 (k_nsS F.ns k_ns0)
  have f94_S_LO_BYTE_SHIFT := k_staKeep SL K94 (k_nsS F.ns k_ns0)
  show KGo p e below _ T94 m 9 #[.val (.ref a), .val (.ref ca)] []
  exact k_retV C P94 d1_9 (by decide) (by decide) ⟨rfl, b, kb, F94_, V94_⟩
theorem ef_rmK5_3 (m : MethodId) (x0 : Addr) (x1 : Int32) (x2 : Addr) (x3 : Int32) (x4 : Int32) : entryFrame m #[(.ref x0), (.int x1), (.ref x2), (.int x3), (.int x4)] 7 = mkF m 0 #[.val (.ref x0), .val (.int x1), .val (.ref x2), .val (.int x3), .val (.int x4), .unset, .unset] [] := by first | (simp [entryFrame, mkF, argsToLocals, Value.category]; done) | rfl
set_option maxRecDepth 65536 in
set_option maxHeartbeats 40000000 in
theorem rmK5_3 (l : Launch) (Z : State) (a0 : Array Value) (hw : ∀ d ∈ tables_1, d.before a0 Z = true) (h0 : Heap) (n0 : Nat) (Z0 : n0 ≤ h0.size) (c0 c1 c2 : Int32) (hc0_ : ¬ 255 < c0) (hc1_ : ¬ 255 < c1) (hc2_ : ¬ 255 < c2) (ca : Addr) (kc : ClassId) (VC : KVA Z h0 ca kc .char 3 (fun j => Value.int (if j = 0 then c0 else if j = 1 then c1 else c2))) (b : Addr) (kb : ClassId) (VB : KVA Z h0 b kb .byte 3 (fun _ => .int 0)) (ge_b : n0 ≤ b) :
    KCt false l (⟨"java/lang/StringUTF16", "compress", "([CI[BII)I"⟩ : MethodName) jdk_52_method_21_code 7 (some .int) ({ frames := 0, cells := 0, slots := 0, locals := 0 } : Room) Z n0 h0 #[(.ref ca), (.int (0 : Int32)), (.ref b), (.int (0 : Int32)), (.int (3 : Int32))] [b] (fun v h => v = some (.int 3) ∧ KVA Z h b kb .byte 3 (fun j => Value.int (if j = 0 then c0.toInt8.toInt32 else if j = 1 then c1.toInt8.toInt32 else c2.toInt8.toInt32))) := by
  refine k_enter (tbl := tables_1) (a0 := a0) (Ls := #[.val (.ref ca), .val (.int (0 : Int32)), .val (.ref b), .val (.int (0 : Int32)), .val (.int (3 : Int32)), .unset, .unset]) (plainFor_of_name pn_8) hw Z0 (fun m => ef_rmK5_3 m ca (0 : Int32) b (0 : Int32) (3 : Int32)) ?_
  intro p e s m below meth c T C P
  have sz_b : b ∈ [b] ∨ h0.size ≤ b := Or.inl (by simp)
  refine k_iconst (z := (0 : Int32)) (pc' := 1) C P d8_0 rfl rfl ?_
  refine k_istore (l' := #[.val (.ref ca), .val (.int (0 : Int32)), .val (.ref b), .val (.int (0 : Int32)), .val (.int (3 : Int32)), .val (.int (0 : Int32)), .unset]) (pc' := 3) C P d8_1 rfl rfl ?_
  refine k_iload (pc' := 5) C P d8_3 rfl rfl ?_
  refine k_iload (pc' := 7) C P d8_5 rfl rfl ?_
  refine k_icN (pc' := 10) C P d8_7 (show (0 : Int32) < (3 : Int32) by decide) rfl ?_
  refine k_aloadN (pc' := 11) C P d8_10 rfl rfl rfl ?_
  refine k_iloadN (pc' := 12) C P d8_11 rfl rfl ?_
  refine k_caload (J := 0) (v := (.int c0)) (pc' := 13) C P VC d8_12 rfl (by decide) rfl rfl ?_
  refine k_istore (l' := #[.val (.ref ca), .val (.int (0 : Int32)), .val (.ref b), .val (.int (0 : Int32)), .val (.int (3 : Int32)), .val (.int (0 : Int32)), .val (.int c0)]) (pc' := 15) C P d8_13 rfl rfl ?_
  refine k_iload (pc' := 17) C P d8_15 rfl rfl ?_
  refine k_sipush (z := (255 : Int32)) (pc' := 20) C P d8_17 rfl rfl ?_
  refine k_icY (pc' := 26) C P d8_20 hc0_ (by decide) (by decide) ?_
  refine k_aloadN (pc' := 27) C P d8_26 rfl rfl rfl ?_
  refine k_iloadN (pc' := 28) C P d8_27 rfl rfl ?_
  refine k_iload (pc' := 30) C P d8_28 rfl rfl ?_
  refine k_i2b (pc' := 31) C P d8_30 rfl ?_
  refine k_bastore (J := 0) (g' := (fun j => Value.int (if j = 0 then c0.toInt8.toInt32 else 0))) (pc' := 32) C P VB d8_31 rfl (by decide) (fun i hi => by match i, hi with | 0, _ => exact congrArg Value.int (own_nb _) | 1, _ => rfl | 2, _ => rfl) ge_b sz_b rfl ?_
  intro T95 h95 P95 W95 V95
  have f95_ca := VC.other W95 (KVA.neT VC VB nofun)
  refine k_iinc (z := (1 : Int32)) (l' := #[.val (.ref ca), .val (.int (1 : Int32)), .val (.ref b), .val (.int (0 : Int32)), .val (.int (3 : Int32)), .val (.int (0 : Int32)), .val (.int c0)]) (pc' := 35) C P95 d8_32 rfl rfl rfl rfl ?_
  refine k_iinc (z := (1 : Int32)) (l' := #[.val (.ref ca), .val (.int (1 : Int32)), .val (.ref b), .val (.int (1 : Int32)), .val (.int (3 : Int32)), .val (.int (0 : Int32)), .val (.int c0)]) (pc' := 38) C P95 d8_35 rfl rfl rfl rfl ?_
  refine k_iinc (z := (1 : Int32)) (l' := #[.val (.ref ca), .val (.int (1 : Int32)), .val (.ref b), .val (.int (1 : Int32)), .val (.int (3 : Int32)), .val (.int (1 : Int32)), .val (.int c0)]) (pc' := 41) C P95 d8_38 rfl rfl rfl rfl ?_
  refine k_goto (pc' := 3) C P95 d8_41 (by decide) (by decide) ?_
  refine k_iload (pc' := 5) C P95 d8_3 rfl rfl ?_
  refine k_iload (pc' := 7) C P95 d8_5 rfl rfl ?_
  refine k_icN (pc' := 10) C P95 d8_7 (show (1 : Int32) < (3 : Int32) by decide) rfl ?_
  refine k_aloadN (pc' := 11) C P95 d8_10 rfl rfl rfl ?_
  refine k_iloadN (pc' := 12) C P95 d8_11 rfl rfl ?_
  refine k_caload (J := 1) (v := (.int c1)) (pc' := 13) C P95 f95_ca d8_12 rfl (by decide) rfl rfl ?_
  refine k_istore (l' := #[.val (.ref ca), .val (.int (1 : Int32)), .val (.ref b), .val (.int (1 : Int32)), .val (.int (3 : Int32)), .val (.int (1 : Int32)), .val (.int c1)]) (pc' := 15) C P95 d8_13 rfl rfl ?_
  refine k_iload (pc' := 17) C P95 d8_15 rfl rfl ?_
  refine k_sipush (z := (255 : Int32)) (pc' := 20) C P95 d8_17 rfl rfl ?_
  refine k_icY (pc' := 26) C P95 d8_20 hc1_ (by decide) (by decide) ?_
  refine k_aloadN (pc' := 27) C P95 d8_26 rfl rfl rfl ?_
  refine k_iloadN (pc' := 28) C P95 d8_27 rfl rfl ?_
  refine k_iload (pc' := 30) C P95 d8_28 rfl rfl ?_
  refine k_i2b (pc' := 31) C P95 d8_30 rfl ?_
  refine k_bastore (J := 1) (g' := (fun j => Value.int (if j = 0 then c0.toInt8.toInt32 else if j = 1 then c1.toInt8.toInt32 else 0))) (pc' := 32) C P95 V95 d8_31 rfl (by decide) (fun i hi => by match i, hi with | 0, _ => rfl | 1, _ => exact congrArg Value.int (own_nb _) | 2, _ => rfl) ge_b sz_b rfl ?_
  intro T96 h96 P96 W96 V96
  have f96_ca := f95_ca.other W96 (KVA.neT f95_ca V95 nofun)
  refine k_iinc (z := (2 : Int32)) (l' := #[.val (.ref ca), .val (.int (2 : Int32)), .val (.ref b), .val (.int (1 : Int32)), .val (.int (3 : Int32)), .val (.int (1 : Int32)), .val (.int c1)]) (pc' := 35) C P96 d8_32 rfl rfl rfl rfl ?_
  refine k_iinc (z := (2 : Int32)) (l' := #[.val (.ref ca), .val (.int (2 : Int32)), .val (.ref b), .val (.int (2 : Int32)), .val (.int (3 : Int32)), .val (.int (1 : Int32)), .val (.int c1)]) (pc' := 38) C P96 d8_35 rfl rfl rfl rfl ?_
  refine k_iinc (z := (2 : Int32)) (l' := #[.val (.ref ca), .val (.int (2 : Int32)), .val (.ref b), .val (.int (2 : Int32)), .val (.int (3 : Int32)), .val (.int (2 : Int32)), .val (.int c1)]) (pc' := 41) C P96 d8_38 rfl rfl rfl rfl ?_
  refine k_goto (pc' := 3) C P96 d8_41 (by decide) (by decide) ?_
  refine k_iload (pc' := 5) C P96 d8_3 rfl rfl ?_
  refine k_iload (pc' := 7) C P96 d8_5 rfl rfl ?_
  refine k_icN (pc' := 10) C P96 d8_7 (show (2 : Int32) < (3 : Int32) by decide) rfl ?_
  refine k_aloadN (pc' := 11) C P96 d8_10 rfl rfl rfl ?_
  refine k_iloadN (pc' := 12) C P96 d8_11 rfl rfl ?_
  refine k_caload (J := 2) (v := (.int c2)) (pc' := 13) C P96 f96_ca d8_12 rfl (by decide) rfl rfl ?_
  refine k_istore (l' := #[.val (.ref ca), .val (.int (2 : Int32)), .val (.ref b), .val (.int (2 : Int32)), .val (.int (3 : Int32)), .val (.int (2 : Int32)), .val (.int c2)]) (pc' := 15) C P96 d8_13 rfl rfl ?_
  refine k_iload (pc' := 17) C P96 d8_15 rfl rfl ?_
  refine k_sipush (z := (255 : Int32)) (pc' := 20) C P96 d8_17 rfl rfl ?_
  refine k_icY (pc' := 26) C P96 d8_20 hc2_ (by decide) (by decide) ?_
  refine k_aloadN (pc' := 27) C P96 d8_26 rfl rfl rfl ?_
  refine k_iloadN (pc' := 28) C P96 d8_27 rfl rfl ?_
  refine k_iload (pc' := 30) C P96 d8_28 rfl rfl ?_
  refine k_i2b (pc' := 31) C P96 d8_30 rfl ?_
  refine k_bastore (J := 2) (g' := (fun j => Value.int (if j = 0 then c0.toInt8.toInt32 else if j = 1 then c1.toInt8.toInt32 else c2.toInt8.toInt32))) (pc' := 32) C P96 V96 d8_31 rfl (by decide) (fun i hi => by match i, hi with | 0, _ => rfl | 1, _ => rfl | 2, _ => exact congrArg Value.int (own_nb _)) ge_b sz_b rfl ?_
  intro T97 h97 P97 W97 V97
  have f97_ca := f96_ca.other W97 (KVA.neT f96_ca V96 nofun)
  refine k_iinc (z := (3 : Int32)) (l' := #[.val (.ref ca), .val (.int (3 : Int32)), .val (.ref b), .val (.int (2 : Int32)), .val (.int (3 : Int32)), .val (.int (2 : Int32)), .val (.int c2)]) (pc' := 35) C P97 d8_32 rfl rfl rfl rfl ?_
  refine k_iinc (z := (3 : Int32)) (l' := #[.val (.ref ca), .val (.int (3 : Int32)), .val (.ref b), .val (.int (3 : Int32)), .val (.int (3 : Int32)), .val (.int (2 : Int32)), .val (.int c2)]) (pc' := 38) C P97 d8_35 rfl rfl rfl rfl ?_
  refine k_iinc (z := (3 : Int32)) (l' := #[.val (.ref ca), .val (.int (3 : Int32)), .val (.ref b), .val (.int (3 : Int32)), .val (.int (3 : Int32)), .val (.int (3 : Int32)), .val (.int c2)]) (pc' := 41) C P97 d8_38 rfl rfl rfl rfl ?_
  refine k_goto (pc' := 3) C P97 d8_41 (by decide) (by decide) ?_
  refine k_iload (pc' := 5) C P97 d8_3 rfl rfl ?_
  refine k_iload (pc' := 7) C P97 d8_5 rfl rfl ?_
  refine k_icY (pc' := 44) C P97 d8_7 (show ¬ (3 : Int32) < (3 : Int32) by decide) (by decide) (by decide) ?_
  refine k_iload (pc' := 46) C P97 d8_44 rfl rfl ?_
  exact k_retI C P97 d8_46 (by decide) (by decide) ⟨rfl, V97⟩
theorem ef_rmK3_3 (m : MethodId) (x0 : Addr) (x1 : Int32) (x2 : Int32) : entryFrame m #[(.ref x0), (.int x1), (.int x2)] 6 = mkF m 0 #[.val (.ref x0), .val (.int x1), .val (.int x2), .unset, .unset, .unset] [] := by first | (simp [entryFrame, mkF, argsToLocals, Value.category]; done) | rfl
set_option maxRecDepth 65536 in
set_option maxHeartbeats 40000000 in
theorem rmK3_3 (l : Launch) (Z : State) (a0 : Array Value) (hw : ∀ d ∈ tables_1, d.before a0 Z = true) (h0 : Heap) (n0 : Nat) (Z0 : n0 ≤ h0.size) (c0 c1 c2 : Int32) (hc0_ : ¬ 255 < c0) (hc1_ : ¬ 255 < c1) (hc2_ : ¬ 255 < c2) (ca : Addr) (kc : ClassId) (VC : KVA Z h0 ca kc .char 3 (fun j => Value.int (if j = 0 then c0 else if j = 1 then c1 else c2))) :
    KCt false l (⟨"java/lang/StringUTF16", "compress", "([CII)[B"⟩ : MethodName) jdk_52_method_16_code 6 (some (.array .byte)) ({ frames := 4, cells := 2, slots := 12, locals := 80 } : Room) Z n0 h0 #[(.ref ca), (.int (0 : Int32)), (.int (3 : Int32))] [] (fun v h => ∃ (b : Addr) (kb : ClassId), v = some (.ref b) ∧ KVA Z h b kb .byte 3 (fun j => Value.int (if j = 0 then c0.toInt8.toInt32 else if j = 1 then c1.toInt8.toInt32 else c2.toInt8.toInt32))) := by
  refine k_enter (tbl := tables_1) (a0 := a0) (Ls := #[.val (.ref ca), .val (.int (0 : Int32)), .val (.int (3 : Int32)), .unset, .unset, .unset]) (plainFor_of_name pn_7) hw Z0 (fun m => ef_rmK3_3 m ca (0 : Int32) (3 : Int32)) ?_
  intro p e s m below meth c T C P
  refine k_iloadN (pc' := 1) C P d7_0 rfl rfl ?_
  refine k_newp (pc' := 3) (cells' := 1) (slots' := 4) (N := 3) (cap := 4) C P (C.w 17 rfl) d7_1 rfl (by decide) (by decide) rfl rfl (by decide) (by decide) rfl ?_
  intro T98 h98 b98 k98 P98 hs98 ge_b98 sz_b98 E98 V98
  have ne_ca_b98 : ca ≠ b98 := Nat.ne_of_lt (hs98 ▸ VC.lt)
  have f98_ca := VC.ext E98
  refine k_astoreN (l' := #[.val (.ref ca), .val (.int (0 : Int32)), .val (.int (3 : Int32)), .val (.ref b98), .unset, .unset]) (pc' := 4) C P98 d7_3 rfl rfl rfl ?_
  refine k_aloadN (pc' := 5) C P98 d7_4 rfl rfl rfl ?_
  refine k_iloadN (pc' := 6) C P98 d7_5 rfl rfl ?_
  refine k_aloadN (pc' := 7) C P98 d7_6 rfl rfl rfl ?_
  refine k_iconst (z := (0 : Int32)) (pc' := 8) C P98 d7_7 rfl rfl ?_
  refine k_iloadN (pc' := 9) C P98 d7_8 rfl rfl ?_
  refine k_callT (pc' := 12) (cells' := 1) (slots' := 4) (W := 0) C P98 (C.w 43 rfl) (C.w 44 rfl) (C.w 45 rfl) (C.w 41 rfl) (by decide) (rmK5_3 l Z a0 hw _ n0 P98.size c0 c1 c2 hc0_ hc1_ hc2_ ca kc f98_ca b98 k98 V98 ge_b98) [(.ref ca), (.int (0 : Int32)), (.ref b98), (.int (0 : Int32)), (.int (3 : Int32))] [] rfl (lenOf pd_3 rfl) rfl (Nat.le_of_eq rfl) d7_9 rfl (by decide) (by decide) rfl rfl (by decide) (by decide) (allS (Or.inr sz_b98) all0) rfl ?_
  intro T99 h99 v99 P99 K99 Q99
  obtain ⟨rfl, V99_⟩ := Q99
  have f99_ca := f98_ca.keep K99 (ninS ne_ca_b98 nin0)
  show KGo p e below _ T99 m 12 #[.val (.ref ca), .val (.int (0 : Int32)), .val (.int (3 : Int32)), .val (.ref b98), .unset, .unset] [(.int (3 : Int32))]
  refine k_istore (l' := #[.val (.ref ca), .val (.int (0 : Int32)), .val (.int (3 : Int32)), .val (.ref b98), .val (.int (3 : Int32)), .unset]) (pc' := 14) C P99 d7_12 rfl rfl ?_
  refine k_iload (pc' := 16) C P99 d7_14 rfl rfl ?_
  refine k_iloadN (pc' := 17) C P99 d7_16 rfl rfl ?_
  refine k_icY (pc' := 57) C P99 d7_17 (rfl : (_ : Int32) = _) (by decide) (by decide) ?_
  refine k_aloadN (pc' := 58) C P99 d7_57 rfl rfl rfl ?_
  exact k_retA C P99 d7_58 rfl rfl (by decide) (by decide) ⟨_, _, rfl, V99_⟩
theorem ef_rmCL_3 (m : MethodId) (x0 : Addr) (x1 : Int32) : entryFrame m #[(.ref x0), (.int x1)] 2 = mkF m 0 #[.val (.ref x0), .val (.int x1)] [] := by first | (simp [entryFrame, mkF, argsToLocals, Value.category]; done) | rfl
set_option maxRecDepth 65536 in
set_option maxHeartbeats 40000000 in
theorem rmCL_3 (l : Launch) (Z : State) (a0 : Array Value) (hw : ∀ d ∈ tables_1, d.before a0 Z = true) (h0 : Heap) (n0 : Nat) (Z0 : n0 ≤ h0.size) (b : Addr) (kb : ClassId) (f : Nat → Value) (VB : KVA Z h0 b kb .byte 3 f) :
    KCt false l (⟨"java/lang/StringUTF16", "coderFromArrayLen", "([BI)B"⟩ : MethodName) jdk_52_method_15_code 2 (some .byte) ({ frames := 0, cells := 0, slots := 0, locals := 0 } : Room) Z n0 h0 #[(.ref b), (.int (3 : Int32))] [] (fun v h => v = some (.int 0) ∧ h0 = h) := by
  refine k_enter (tbl := tables_1) (a0 := a0) (Ls := #[.val (.ref b), .val (.int (3 : Int32))]) (plainFor_of_name pn_9) hw Z0 (fun m => ef_rmCL_3 m b (3 : Int32)) ?_
  intro p e s m below meth c T C P
  refine k_iloadN (pc' := 1) C P d9_0 rfl rfl ?_
  refine k_aloadN (pc' := 2) C P d9_1 rfl rfl rfl ?_
  refine k_arrlen (z := (3 : Int32)) (pc' := 3) C P VB d9_2 rfl rfl ?_
  refine k_isub (pc' := 4) C P d9_3 rfl ?_
  refine k_bipush (z := (31 : Int32)) (pc' := 6) C P d9_4 rfl rfl ?_
  refine k_iushr (pc' := 7) C P d9_6 rfl ?_
  refine k_i2b (pc' := 8) C P d9_7 rfl ?_
  exact k_retZ (z' := 0) C P (by simp) d9_8 (by decide) (by decide) (by decide) ⟨rfl, rfl⟩
theorem ef_rmNI_3 (m : MethodId) (x0 : Addr) (x1 : Addr) (x2 : Int32) (x3 : Int32) : entryFrame m #[(.ref x0), (.ref x1), (.int x2), (.int x3), .null] 6 = mkF m 0 #[.val (.ref x0), .val (.ref x1), .val (.int x2), .val (.int x3), .val .null, .unset] [] := by first | (simp [entryFrame, mkF, argsToLocals, Value.category]; done) | rfl
set_option maxRecDepth 65536 in
set_option maxHeartbeats 40000000 in
theorem rmNI_3 (l : Launch) (Z : State) (a0 : Array Value) (hw : ∀ d ∈ tables_1, d.before a0 Z = true) (h0 : Heap) (n0 : Nat) (Z0 : n0 ≤ h0.size) (c0 c1 c2 : Int32) (hc0_ : ¬ 255 < c0) (hc1_ : ¬ 255 < c1) (hc2_ : ¬ 255 < c2) (ca : Addr) (kc : ClassId) (VC : KVA Z h0 ca kc .char 3 (fun j => Value.int (if j = 0 then c0 else if j = 1 then c1 else c2))) (a : Addr) (ge_a : n0 ≤ a) (F : KOb Z h0 a "java/lang/String" layS [.int 0, .null]) (cs : Int32) (hcs : ¬ cs = 0) (SC : Sta Z h0 "java/lang/String" "COMPACT_STRINGS" "Z" (.int cs)) :
    KCt false l (⟨"java/lang/String", "<init>", "([CIILjava/lang/Void;)V"⟩ : MethodName) jdk_42_method_149_code 6 none ({ frames := 5, cells := 2, slots := 12, locals := 110 } : Room) Z n0 h0 #[(.ref a), (.ref ca), (.int (0 : Int32)), (.int (3 : Int32)), .null] [a] (fun v h => v = none ∧ ∃ (b : Addr) (kb : ClassId), KOb Z h a "java/lang/String" layS [.int 0, .ref b] ∧ KVA Z h b kb .byte 3 (fun j => Value.int (if j = 0 then c0.toInt8.toInt32 else if j = 1 then c1.toInt8.toInt32 else c2.toInt8.toInt32))) := by
  refine k_enter (tbl := tables_1) (a0 := a0) (Ls := #[.val (.ref a), .val (.ref ca), .val (.int (0 : Int32)), .val (.int (3 : Int32)), .val .null, .unset]) (plainFor_of_name pn_2) hw Z0 (fun m => ef_rmNI_3 m a ca (0 : Int32) (3 : Int32)) ?_
  intro p e s m below meth c T C P
  have sz_a : a ∈ [a] ∨ h0.size ≤ a := Or.inl (by simp)
  refine k_aloadN (pc' := 1) C P d2_0 rfl rfl rfl ?_
  refine k_initObj (pc' := 4) (W := 0) C P (C.w 13 rfl) (C.w 14 rfl) (C.w 15 rfl) d2_1 rfl (by decide) (by decide) (by decide) rfl ?_
  intro T100 P100
  refine k_iloadN (pc' := 5) C P100 d2_4 rfl rfl ?_
  refine k_ifY (pc' := 27) C P100 d2_5 (show ¬ (3 : Int32) = (0 : Int32) by decide) (by decide) (by decide) ?_
  refine k_gets (pc' := 30) C P100 (C.w 38 rfl) Via.refl SC d2_27 rfl ?_
  intro T101 P101
  refine k_ifN (pc' := 33) C P101 d2_30 hcs rfl ?_
  refine k_aloadN (pc' := 34) C P101 d2_33 rfl rfl rfl ?_
  refine k_iloadN (pc' := 35) C P101 d2_34 rfl rfl ?_
  refine k_iloadN (pc' := 36) C P101 d2_35 rfl rfl ?_
  refine k_callT (pc' := 39) (cells' := 2) (slots' := 12) (W := 0) C P101 (C.w 39 rfl) (C.w 40 rfl) (C.w 42 rfl) (C.w 41 rfl) (by decide) (rmK3_3 l Z a0 hw _ n0 P101.size c0 c1 c2 hc0_ hc1_ hc2_ ca kc VC) [(.ref ca), (.int (0 : Int32)), (.int (3 : Int32))] [] rfl (lenOf pd_4 rfl) rfl (Nat.le_of_eq rfl) d2_36 rfl (by decide) (by decide) rfl rfl (by decide) (by decide) all0 rfl ?_
  intro T102 h102 v102 P102 K102 Q102
  obtain ⟨b, kb, rfl, V102_⟩ := Q102
  have f102_a := F.keep K102 nin0
  have f102_ca := VC.keep K102 nin0
  have f102_S_COMPACT_STRINGS := k_staKeep SC K102 k_ns0
  show KGo p e below _ T102 m 39 #[.val (.ref a), .val (.ref ca), .val (.int (0 : Int32)), .val (.int (3 : Int32)), .val .null, .unset] [(.ref b)]
  refine k_astore (l' := #[.val (.ref a), .val (.ref ca), .val (.int (0 : Int32)), .val (.int (3 : Int32)), .val .null, .val (.ref b)]) (pc' := 41) C P102 d2_39 rfl rfl rfl ?_
  refine k_aloadN (pc' := 42) C P102 d2_41 rfl rfl rfl ?_
  refine k_aload (pc' := 44) C P102 d2_42 rfl rfl rfl ?_
  refine k_iloadN (pc' := 45) C P102 d2_44 rfl rfl ?_
  refine k_callT (pc' := 48) (cells' := 2) (slots' := 12) (W := 1) C P102 (C.w 46 rfl) (C.w 47 rfl) (C.w 48 rfl) (C.w 41 rfl) (by decide) (rmCL_3 l Z a0 hw _ n0 P102.size b kb _ V102_) [(.ref b), (.int (3 : Int32))] [(.ref a)] rfl (lenOf pd_5 rfl) rfl (Nat.le_of_eq rfl) d2_45 rfl (by decide) (by decide) rfl rfl (by decide) (by decide) all0 rfl ?_
  intro T103 h103 v103 P103 K103 Q103
  obtain ⟨e103, g103⟩ := Q103
  subst g103
  subst e103
  show KGo p e below _ T103 m 48 #[.val (.ref a), .val (.ref ca), .val (.int (0 : Int32)), .val (.int (3 : Int32)), .val .null, .val (.ref b)] [(.int (0 : Int32)), (.ref a)]
  refine k_putf (pc' := 51) (ty := .byte) (v' := (.int (0 : Int32))) C P103 (C.w 23 rfl) Via.refl f102_a 0 rfl (Or.inr ⟨(C.w 19 rfl), rfl, rfl⟩) (C.w 4 rfl) (by decide) rfl rfl d2_48 ge_a sz_a rfl ?_
  intro T104 h104 P104 W104
  have f104_a : KOb Z h104 a "java/lang/String" layS [(.int (0 : Int32)), .null] := f102_a.put (lokS C.hw) 0 rfl W104 rfl
  have f104_ca := f102_ca.other W104 (f102_ca.ne_ob f102_a.exa (C.w 4 rfl))
  have f104_S_COMPACT_STRINGS := Sta.wr W104 f102_S_COMPACT_STRINGS
  have f104_b := V102_.other W104 (V102_.ne_ob f102_a.exa (C.w 4 rfl))
  refine k_aloadN (pc' := 52) C P104 d2_51 rfl rfl rfl ?_
  refine k_aload (pc' := 54) C P104 d2_52 rfl rfl rfl ?_
  refine k_putf (pc' := 57) (ty := (.array .byte)) (v' := (.ref b)) C P104 (C.w 22 rfl) Via.refl f104_a 1 rfl (Or.inr ⟨(C.w 18 rfl), rfl, rfl⟩) (C.w 4 rfl) (by decide) rfl rfl d2_54 ge_a sz_a rfl ?_
  intro T105 h105 P105 W105
  have f105_a : KOb Z h105 a "java/lang/String" layS [(.int (0 : Int32)), (.ref b)] := f104_a.put (lokS C.hw) 1 rfl W105 rfl
  have f105_ca := f104_ca.other W105 (f104_ca.ne_ob f104_a.exa (C.w 4 rfl))
  have f105_S_COMPACT_STRINGS := Sta.wr W105 f104_S_COMPACT_STRINGS
  have f105_b := f104_b.other W105 (f104_b.ne_ob f104_a.exa (C.w 4 rfl))
  exact k_retV C P105 d2_57 (by decide) (by decide) ⟨rfl, b, kb, f105_a, f105_b⟩
theorem ef_rmNew_3 (m : MethodId) (x0 : Addr) (x1 : Addr) : entryFrame m #[(.ref x0), (.ref x1)] 2 = mkF m 0 #[.val (.ref x0), .val (.ref x1)] [] := by first | (simp [entryFrame, mkF, argsToLocals, Value.category]; done) | rfl
set_option maxRecDepth 65536 in
set_option maxHeartbeats 40000000 in
theorem rmNew_3 (l : Launch) (Z : State) (a0 : Array Value) (hw : ∀ d ∈ tables_1, d.before a0 Z = true) (h0 : Heap) (n0 : Nat) (Z0 : n0 ≤ h0.size) (c0 c1 c2 : Int32) (hc0_ : ¬ 255 < c0) (hc1_ : ¬ 255 < c1) (hc2_ : ¬ 255 < c2) (ca : Addr) (kc : ClassId) (VC : KVA Z h0 ca kc .char 3 (fun j => Value.int (if j = 0 then c0 else if j = 1 then c1 else c2))) (a : Addr) (ge_a : n0 ≤ a) (F : KOb Z h0 a "java/lang/String" layS [.int 0, .null]) (cs : Int32) (hcs : ¬ cs = 0) (SC : Sta Z h0 "java/lang/String" "COMPACT_STRINGS" "Z" (.int cs)) :
    KCt false l (⟨"java/lang/String", "<init>", "([C)V"⟩ : MethodName) jdk_42_method_3_code 2 none ({ frames := 6, cells := 2, slots := 12, locals := 140 } : Room) Z n0 h0 #[(.ref a), (.ref ca)] [a] (fun v h => v = none ∧ ∃ (b : Addr) (kb : ClassId), KOb Z h a "java/lang/String" layS [.int 0, .ref b] ∧ KVA Z h b kb .byte 3 (fun j => Value.int (if j = 0 then c0.toInt8.toInt32 else if j = 1 then c1.toInt8.toInt32 else c2.toInt8.toInt32))) := by
  refine k_enter (tbl := tables_1) (a0 := a0) (Ls := #[.val (.ref a), .val (.ref ca)]) (plainFor_of_name pn_1) hw Z0 (fun m => ef_rmNew_3 m a ca) ?_
  intro p e s m below meth c T C P
  have sz_a : a ∈ [a] ∨ h0.size ≤ a := Or.inl (by simp)
  refine k_aloadN (pc' := 1) C P d1_0 rfl rfl rfl ?_
  refine k_aloadN (pc' := 2) C P d1_1 rfl rfl rfl ?_
  refine k_iconst (z := (0 : Int32)) (pc' := 3) C P d1_2 rfl rfl ?_
  refine k_aloadN (pc' := 4) C P d1_3 rfl rfl rfl ?_
  refine k_arrlen (z := (3 : Int32)) (pc' := 5) C P VC d1_4 rfl rfl ?_
  refine k_aconstNull (pc' := 6) C P d1_5 rfl ?_
  refine k_callN (pc' := 9) (cells' := 2) (slots' := 12) (W := 0) C P rfl (C.w 9 rfl) (C.w 10 rfl) (C.w 12 rfl) (C.w 5 rfl) (by decide) (rmNI_3 l Z a0 hw _ n0 P.size c0 c1 c2 hc0_ hc1_ hc2_ ca kc VC a ge_a F cs hcs SC) a [(.ref ca), (.int (0 : Int32)), (.int (3 : Int32)), .null] [] rfl (lenOf pd_6 rfl) rfl (Nat.le_of_eq rfl) d1_6 rfl (by decide) (by decide) rfl rfl (by decide) (by decide) (allS sz_a all0) rfl ?_
  intro T106 h106 v106 P106 K106 Q106
  obtain ⟨rfl, b, kb, F106_, V106_⟩ := Q106
  have f106_ca := VC.keep K106 (ninS (VC.ne_ob F.exa (C.w 4 rfl)) nin0)
  have f106_S_COMPACT_STRINGS := k_staKeep SC K106 (k_nsS F.ns k_ns0)
  show KGo p e below _ T106 m 9 #[.val (.ref a), .val (.ref ca)] []
  exact k_retV C P106 d1_9 (by decide) (by decide) ⟨rfl, b, kb, F106_, V106_⟩
theorem ef_rmCU_3 (m : MethodId) (x0 : Addr) (x1 : Int32) : entryFrame m #[(.ref x0), (.int x1)] 2 = mkF m 0 #[.val (.ref x0), .val (.int x1)] [] := by first | (simp [entryFrame, mkF, argsToLocals, Value.category]; done) | rfl
set_option maxRecDepth 65536 in
set_option maxHeartbeats 40000000 in
theorem rmCU_3 (l : Launch) (Z : State) (a0 : Array Value) (hw : ∀ d ∈ tables_1, d.before a0 Z = true) (h0 : Heap) (n0 : Nat) (Z0 : n0 ≤ h0.size) (b : Addr) (kb : ClassId) (f : Nat → Value) (VB : KVA Z h0 b kb .byte 6 f) :
    KCt false l (⟨"java/lang/StringUTF16", "coderFromArrayLen", "([BI)B"⟩ : MethodName) jdk_52_method_15_code 2 (some .byte) ({ frames := 0, cells := 0, slots := 0, locals := 0 } : Room) Z n0 h0 #[(.ref b), (.int (3 : Int32))] [] (fun v h => v = some (.int 1) ∧ h0 = h) := by
  refine k_enter (tbl := tables_1) (a0 := a0) (Ls := #[.val (.ref b), .val (.int (3 : Int32))]) (plainFor_of_name pn_9) hw Z0 (fun m => ef_rmCU_3 m b (3 : Int32)) ?_
  intro p e s m below meth c T C P
  refine k_iloadN (pc' := 1) C P d9_0 rfl rfl ?_
  refine k_aloadN (pc' := 2) C P d9_1 rfl rfl rfl ?_
  refine k_arrlen (z := (6 : Int32)) (pc' := 3) C P VB d9_2 rfl rfl ?_
  refine k_isub (pc' := 4) C P d9_3 rfl ?_
  refine k_bipush (z := (31 : Int32)) (pc' := 6) C P d9_4 rfl rfl ?_
  refine k_iushr (pc' := 7) C P d9_6 rfl ?_
  refine k_i2b (pc' := 8) C P d9_7 rfl ?_
  exact k_retZ (z' := 1) C P (by simp) d9_8 (by decide) (by decide) (by decide) ⟨rfl, rfl⟩
theorem ef_rmU5_30 (m : MethodId) (x0 : Addr) (x1 : Int32) (x2 : Addr) (x3 : Int32) (x4 : Int32) : entryFrame m #[(.ref x0), (.int x1), (.ref x2), (.int x3), (.int x4)] 7 = mkF m 0 #[.val (.ref x0), .val (.int x1), .val (.ref x2), .val (.int x3), .val (.int x4), .unset, .unset] [] := by first | (simp [entryFrame, mkF, argsToLocals, Value.category]; done) | rfl
set_option maxRecDepth 65536 in
set_option maxHeartbeats 40000000 in
theorem rmU5_30 (l : Launch) (Z : State) (a0 : Array Value) (hw : ∀ d ∈ tables_1, d.before a0 Z = true) (h0 : Heap) (n0 : Nat) (Z0 : n0 ≤ h0.size) (c0 c1 c2 : Int32) (hx : own_ch c0)  (hi_ : 255 < c0) (ca : Addr) (kc : ClassId) (VC : KVA Z h0 ca kc .char 3 (fun j => Value.int (if j = 0 then c0 else if j = 1 then c1 else c2))) (b : Addr) (kb : ClassId) (VB : KVA Z h0 b kb .byte 3 (fun _ => .int 0)) (ge_b : n0 ≤ b) :
    KCt false l (⟨"java/lang/StringUTF16", "compress", "([CI[BII)I"⟩ : MethodName) jdk_52_method_21_code 7 (some .int) ({ frames := 0, cells := 0, slots := 0, locals := 0 } : Room) Z n0 h0 #[(.ref ca), (.int (0 : Int32)), (.ref b), (.int (0 : Int32)), (.int (3 : Int32))] [b] (fun v h => v = some (.int 0)) := by
  refine k_enter (tbl := tables_1) (a0 := a0) (Ls := #[.val (.ref ca), .val (.int (0 : Int32)), .val (.ref b), .val (.int (0 : Int32)), .val (.int (3 : Int32)), .unset, .unset]) (plainFor_of_name pn_8) hw Z0 (fun m => ef_rmU5_30 m ca (0 : Int32) b (0 : Int32) (3 : Int32)) ?_
  intro p e s m below meth c T C P
  have sz_b : b ∈ [b] ∨ h0.size ≤ b := Or.inl (by simp)
  refine k_iconst (z := (0 : Int32)) (pc' := 1) C P d8_0 rfl rfl ?_
  refine k_istore (l' := #[.val (.ref ca), .val (.int (0 : Int32)), .val (.ref b), .val (.int (0 : Int32)), .val (.int (3 : Int32)), .val (.int (0 : Int32)), .unset]) (pc' := 3) C P d8_1 rfl rfl ?_
  refine k_iload (pc' := 5) C P d8_3 rfl rfl ?_
  refine k_iload (pc' := 7) C P d8_5 rfl rfl ?_
  refine k_icN (pc' := 10) C P d8_7 (show (0 : Int32) < (3 : Int32) by decide) rfl ?_
  refine k_aloadN (pc' := 11) C P d8_10 rfl rfl rfl ?_
  refine k_iloadN (pc' := 12) C P d8_11 rfl rfl ?_
  refine k_caload (J := 0) (v := (.int c0)) (pc' := 13) C P VC d8_12 rfl (by decide) rfl rfl ?_
  refine k_istore (l' := #[.val (.ref ca), .val (.int (0 : Int32)), .val (.ref b), .val (.int (0 : Int32)), .val (.int (3 : Int32)), .val (.int (0 : Int32)), .val (.int c0)]) (pc' := 15) C P d8_13 rfl rfl ?_
  refine k_iload (pc' := 17) C P d8_15 rfl rfl ?_
  refine k_sipush (z := (255 : Int32)) (pc' := 20) C P d8_17 rfl rfl ?_
  refine k_icN (pc' := 23) C P d8_20 hi_ rfl ?_
  refine k_iload (pc' := 25) C P d8_23 rfl rfl ?_
  exact k_retI C P d8_25 (by decide) (by decide) rfl
theorem ef_rmU3_30 (m : MethodId) (x0 : Addr) (x1 : Int32) (x2 : Int32) : entryFrame m #[(.ref x0), (.int x1), (.int x2)] 6 = mkF m 0 #[.val (.ref x0), .val (.int x1), .val (.int x2), .unset, .unset, .unset] [] := by first | (simp [entryFrame, mkF, argsToLocals, Value.category]; done) | rfl
set_option maxRecDepth 65536 in
set_option maxHeartbeats 40000000 in
theorem rmU3_30 (l : Launch) (Z : State) (a0 : Array Value) (hw : ∀ d ∈ tables_1, d.before a0 Z = true) (h0 : Heap) (n0 : Nat) (Z0 : n0 ≤ h0.size) (c0 c1 c2 : Int32) (hx : own_ch c0)  (hi_ : 255 < c0) (ca : Addr) (kc : ClassId) (VC : KVA Z h0 ca kc .char 3 (fun j => Value.int (if j = 0 then c0 else if j = 1 then c1 else c2))) (SA : Sta Z h0 "java/lang/StringUTF16" "$assertionsDisabled" "Z" (.int 1)) (SH : Sta Z h0 "java/lang/StringUTF16" "HI_BYTE_SHIFT" "I" (.int 0)) (SL : Sta Z h0 "java/lang/StringUTF16" "LO_BYTE_SHIFT" "I" (.int 8)) :
    KCt false l (⟨"java/lang/StringUTF16", "compress", "([CII)[B"⟩ : MethodName) jdk_52_method_16_code 6 (some (.array .byte)) ({ frames := 4, cells := 2, slots := 12, locals := 80 } : Room) Z n0 h0 #[(.ref ca), (.int (0 : Int32)), (.int (3 : Int32))] [] (fun v h => ∃ (b : Addr) (kb : ClassId), v = some (.ref b) ∧ KVA Z h b kb .byte 6 (fun j => .int (if j = 4 then (own_lo c2) else if j = 5 then (own_hi c2) else if j = 2 then (own_lo c1) else if j = 3 then (own_hi c1) else if j = 0 then (own_lo c0) else if j = 1 then (own_hi c0) else (0 : Int32)))) := by
  refine k_enter (tbl := tables_1) (a0 := a0) (Ls := #[.val (.ref ca), .val (.int (0 : Int32)), .val (.int (3 : Int32)), .unset, .unset, .unset]) (plainFor_of_name pn_7) hw Z0 (fun m => ef_rmU3_30 m ca (0 : Int32) (3 : Int32)) ?_
  intro p e s m below meth c T C P
  refine k_iloadN (pc' := 1) C P d7_0 rfl rfl ?_
  refine k_newp (pc' := 3) (cells' := 1) (slots' := 4) (N := 3) (cap := 4) C P (C.w 17 rfl) d7_1 rfl (by decide) (by decide) rfl rfl (by decide) (by decide) rfl ?_
  intro T107 h107 b107 k107 P107 hs107 ge_b107 sz_b107 E107 V107
  have ne_ca_b107 : ca ≠ b107 := Nat.ne_of_lt (hs107 ▸ VC.lt)
  have f107_ca := VC.ext E107
  have f107_S__assertionsDisabled := Sta.ext E107 SA
  have f107_S_HI_BYTE_SHIFT := Sta.ext E107 SH
  have f107_S_LO_BYTE_SHIFT := Sta.ext E107 SL
  refine k_astoreN (l' := #[.val (.ref ca), .val (.int (0 : Int32)), .val (.int (3 : Int32)), .val (.ref b107), .unset, .unset]) (pc' := 4) C P107 d7_3 rfl rfl rfl ?_
  refine k_aloadN (pc' := 5) C P107 d7_4 rfl rfl rfl ?_
  refine k_iloadN (pc' := 6) C P107 d7_5 rfl rfl ?_
  refine k_aloadN (pc' := 7) C P107 d7_6 rfl rfl rfl ?_
  refine k_iconst (z := (0 : Int32)) (pc' := 8) C P107 d7_7 rfl rfl ?_
  refine k_iloadN (pc' := 9) C P107 d7_8 rfl rfl ?_
  refine k_callT (pc' := 12) (cells' := 1) (slots' := 4) (W := 0) C P107 (C.w 43 rfl) (C.w 44 rfl) (C.w 45 rfl) (C.w 41 rfl) (by decide) (rmU5_30 l Z a0 hw _ n0 P107.size c0 c1 c2 hx  hi_ ca kc f107_ca b107 k107 V107 ge_b107) [(.ref ca), (.int (0 : Int32)), (.ref b107), (.int (0 : Int32)), (.int (3 : Int32))] [] rfl (lenOf pd_3 rfl) rfl (Nat.le_of_eq rfl) d7_9 rfl (by decide) (by decide) rfl rfl (by decide) (by decide) (allS (Or.inr sz_b107) all0) rfl ?_
  intro T108 h108 v108 P108 K108 Q108
  obtain rfl := Q108
  have f108_ca := f107_ca.keep K108 (ninS ne_ca_b107 nin0)
  have f108_S__assertionsDisabled := k_staKeep f107_S__assertionsDisabled K108 (k_nsS V107.ns k_ns0)
  have f108_S_HI_BYTE_SHIFT := k_staKeep f107_S_HI_BYTE_SHIFT K108 (k_nsS V107.ns k_ns0)
  have f108_S_LO_BYTE_SHIFT := k_staKeep f107_S_LO_BYTE_SHIFT K108 (k_nsS V107.ns k_ns0)
  show KGo p e below _ T108 m 12 #[.val (.ref ca), .val (.int (0 : Int32)), .val (.int (3 : Int32)), .val (.ref b107), .unset, .unset] [(.int (0 : Int32))]
  refine k_istore (l' := #[.val (.ref ca), .val (.int (0 : Int32)), .val (.int (3 : Int32)), .val (.ref b107), .val (.int (0 : Int32)), .unset]) (pc' := 14) C P108 d7_12 rfl rfl ?_
  refine k_iload (pc' := 16) C P108 d7_14 rfl rfl ?_
  refine k_iloadN (pc' := 17) C P108 d7_16 rfl rfl ?_
  refine k_icN (pc' := 20) C P108 d7_17 (show ¬ (0 : Int32) = (3 : Int32) by decide) rfl ?_
  refine k_aloadN (pc' := 21) C P108 d7_20 rfl rfl rfl ?_
  refine k_iloadN (pc' := 22) C P108 d7_21 rfl rfl ?_
  refine k_iloadN (pc' := 23) C P108 d7_22 rfl rfl ?_
  refine k_callT (pc' := 26) (cells' := 2) (slots' := 10) (W := 0) C P108 (C.w 71 rfl) (C.w 72 rfl) (C.w 73 rfl) (C.w 41 rfl) (by decide) (rmTB3 l Z a0 hw _ n0 P108.size c0 c1 c2 ca kc f108_ca f108_S__assertionsDisabled f108_S_HI_BYTE_SHIFT f108_S_LO_BYTE_SHIFT) [(.ref ca), (.int (0 : Int32)), (.int (3 : Int32))] [] rfl (lenOf pd_4 rfl) rfl (Nat.le_of_eq rfl) d7_23 rfl (by decide) (by decide) rfl rfl (by decide) (by decide) all0 rfl ?_
  intro T109 h109 v109 P109 K109 Q109
  obtain ⟨y, ky, rfl, V109_⟩ := Q109
  have f109_ca := f108_ca.keep K109 nin0
  have f109_S__assertionsDisabled := k_staKeep f108_S__assertionsDisabled K109 k_ns0
  have f109_S_HI_BYTE_SHIFT := k_staKeep f108_S_HI_BYTE_SHIFT K109 k_ns0
  have f109_S_LO_BYTE_SHIFT := k_staKeep f108_S_LO_BYTE_SHIFT K109 k_ns0
  show KGo p e below _ T109 m 26 #[.val (.ref ca), .val (.int (0 : Int32)), .val (.int (3 : Int32)), .val (.ref b107), .val (.int (0 : Int32)), .unset] [(.ref y)]
  refine k_astore (l' := #[.val (.ref ca), .val (.int (0 : Int32)), .val (.int (3 : Int32)), .val (.ref b107), .val (.int (0 : Int32)), .val (.ref y)]) (pc' := 28) C P109 d7_26 rfl rfl rfl ?_
  refine k_aload (pc' := 30) C P109 d7_28 rfl rfl rfl ?_
  refine k_iload (pc' := 32) C P109 d7_30 rfl rfl ?_
  refine k_callT (pc' := 35) (cells' := 2) (slots' := 10) (W := 0) C P109 (C.w 87 rfl) (C.w 88 rfl) (C.w 89 rfl) (C.w 41 rfl) (by decide) (rmGC0 l Z a0 hw _ n0 P109.size y ky 6 (by decide) (fun j => if j = 4 then (own_lo c2) else if j = 5 then (own_hi c2) else if j = 2 then (own_lo c1) else if j = 3 then (own_hi c1) else if j = 0 then (own_lo c0) else if j = 1 then (own_hi c0) else (0 : Int32)) c0 hx rfl rfl f109_S__assertionsDisabled f109_S_HI_BYTE_SHIFT f109_S_LO_BYTE_SHIFT V109_) [(.ref y), (.int (0 : Int32))] [] rfl (lenOf pd_7 rfl) rfl (Nat.le_of_eq rfl) d7_32 rfl (by decide) (by decide) rfl rfl (by decide) (by decide) all0 rfl ?_
  intro T110 h110 v110 P110 K110 Q110
  obtain ⟨e110, g110⟩ := Q110
  subst g110
  subst e110
  show KGo p e below _ T110 m 35 #[.val (.ref ca), .val (.int (0 : Int32)), .val (.int (3 : Int32)), .val (.ref b107), .val (.int (0 : Int32)), .val (.ref y)] [(.int c0)]
  refine k_sipush (z := (255 : Int32)) (pc' := 38) C P110 d7_35 rfl rfl ?_
  refine k_icY (pc' := 54) C P110 d7_38 hi_ (by decide) (by decide) ?_
  refine k_aload (pc' := 56) C P110 d7_54 rfl rfl rfl ?_
  exact k_retA C P110 d7_56 rfl rfl (by decide) (by decide) ⟨_, _, rfl, V109_⟩
theorem ef_rmUI_30 (m : MethodId) (x0 : Addr) (x1 : Addr) (x2 : Int32) (x3 : Int32) : entryFrame m #[(.ref x0), (.ref x1), (.int x2), (.int x3), .null] 6 = mkF m 0 #[.val (.ref x0), .val (.ref x1), .val (.int x2), .val (.int x3), .val .null, .unset] [] := by first | (simp [entryFrame, mkF, argsToLocals, Value.category]; done) | rfl
set_option maxRecDepth 65536 in
set_option maxHeartbeats 40000000 in
theorem rmUI_30 (l : Launch) (Z : State) (a0 : Array Value) (hw : ∀ d ∈ tables_1, d.before a0 Z = true) (h0 : Heap) (n0 : Nat) (Z0 : n0 ≤ h0.size) (c0 c1 c2 : Int32) (hx : own_ch c0)  (hi_ : 255 < c0) (ca : Addr) (kc : ClassId) (VC : KVA Z h0 ca kc .char 3 (fun j => Value.int (if j = 0 then c0 else if j = 1 then c1 else c2))) (a : Addr) (ge_a : n0 ≤ a) (F : KOb Z h0 a "java/lang/String" layS [.int 0, .null]) (cs : Int32) (hcs : ¬ cs = 0) (SC : Sta Z h0 "java/lang/String" "COMPACT_STRINGS" "Z" (.int cs)) (SA : Sta Z h0 "java/lang/StringUTF16" "$assertionsDisabled" "Z" (.int 1)) (SH : Sta Z h0 "java/lang/StringUTF16" "HI_BYTE_SHIFT" "I" (.int 0)) (SL : Sta Z h0 "java/lang/StringUTF16" "LO_BYTE_SHIFT" "I" (.int 8)) :
    KCt false l (⟨"java/lang/String", "<init>", "([CIILjava/lang/Void;)V"⟩ : MethodName) jdk_42_method_149_code 6 none ({ frames := 5, cells := 2, slots := 12, locals := 110 } : Room) Z n0 h0 #[(.ref a), (.ref ca), (.int (0 : Int32)), (.int (3 : Int32)), .null] [a] (fun v h => v = none ∧ ∃ (b : Addr) (kb : ClassId), KOb Z h a "java/lang/String" layS [.int 1, .ref b] ∧ KVA Z h b kb .byte 6 (fun j => .int (if j = 4 then (own_lo c2) else if j = 5 then (own_hi c2) else if j = 2 then (own_lo c1) else if j = 3 then (own_hi c1) else if j = 0 then (own_lo c0) else if j = 1 then (own_hi c0) else (0 : Int32)))) := by
  refine k_enter (tbl := tables_1) (a0 := a0) (Ls := #[.val (.ref a), .val (.ref ca), .val (.int (0 : Int32)), .val (.int (3 : Int32)), .val .null, .unset]) (plainFor_of_name pn_2) hw Z0 (fun m => ef_rmUI_30 m a ca (0 : Int32) (3 : Int32)) ?_
  intro p e s m below meth c T C P
  have sz_a : a ∈ [a] ∨ h0.size ≤ a := Or.inl (by simp)
  refine k_aloadN (pc' := 1) C P d2_0 rfl rfl rfl ?_
  refine k_initObj (pc' := 4) (W := 0) C P (C.w 13 rfl) (C.w 14 rfl) (C.w 15 rfl) d2_1 rfl (by decide) (by decide) (by decide) rfl ?_
  intro T111 P111
  refine k_iloadN (pc' := 5) C P111 d2_4 rfl rfl ?_
  refine k_ifY (pc' := 27) C P111 d2_5 (show ¬ (3 : Int32) = (0 : Int32) by decide) (by decide) (by decide) ?_
  refine k_gets (pc' := 30) C P111 (C.w 38 rfl) Via.refl SC d2_27 rfl ?_
  intro T112 P112
  refine k_ifN (pc' := 33) C P112 d2_30 hcs rfl ?_
  refine k_aloadN (pc' := 34) C P112 d2_33 rfl rfl rfl ?_
  refine k_iloadN (pc' := 35) C P112 d2_34 rfl rfl ?_
  refine k_iloadN (pc' := 36) C P112 d2_35 rfl rfl ?_
  refine k_callT (pc' := 39) (cells' := 2) (slots' := 12) (W := 0) C P112 (C.w 39 rfl) (C.w 40 rfl) (C.w 42 rfl) (C.w 41 rfl) (by decide) (rmU3_30 l Z a0 hw _ n0 P112.size c0 c1 c2 hx  hi_ ca kc VC SA SH SL) [(.ref ca), (.int (0 : Int32)), (.int (3 : Int32))] [] rfl (lenOf pd_4 rfl) rfl (Nat.le_of_eq rfl) d2_36 rfl (by decide) (by decide) rfl rfl (by decide) (by decide) all0 rfl ?_
  intro T113 h113 v113 P113 K113 Q113
  obtain ⟨b, kb, rfl, V113_⟩ := Q113
  have f113_a := F.keep K113 nin0
  have f113_ca := VC.keep K113 nin0
  have f113_S_COMPACT_STRINGS := k_staKeep SC K113 k_ns0
  have f113_S__assertionsDisabled := k_staKeep SA K113 k_ns0
  have f113_S_HI_BYTE_SHIFT := k_staKeep SH K113 k_ns0
  have f113_S_LO_BYTE_SHIFT := k_staKeep SL K113 k_ns0
  show KGo p e below _ T113 m 39 #[.val (.ref a), .val (.ref ca), .val (.int (0 : Int32)), .val (.int (3 : Int32)), .val .null, .unset] [(.ref b)]
  refine k_astore (l' := #[.val (.ref a), .val (.ref ca), .val (.int (0 : Int32)), .val (.int (3 : Int32)), .val .null, .val (.ref b)]) (pc' := 41) C P113 d2_39 rfl rfl rfl ?_
  refine k_aloadN (pc' := 42) C P113 d2_41 rfl rfl rfl ?_
  refine k_aload (pc' := 44) C P113 d2_42 rfl rfl rfl ?_
  refine k_iloadN (pc' := 45) C P113 d2_44 rfl rfl ?_
  refine k_callT (pc' := 48) (cells' := 2) (slots' := 12) (W := 1) C P113 (C.w 46 rfl) (C.w 47 rfl) (C.w 48 rfl) (C.w 41 rfl) (by decide) (rmCU_3 l Z a0 hw _ n0 P113.size b kb _ V113_) [(.ref b), (.int (3 : Int32))] [(.ref a)] rfl (lenOf pd_5 rfl) rfl (Nat.le_of_eq rfl) d2_45 rfl (by decide) (by decide) rfl rfl (by decide) (by decide) all0 rfl ?_
  intro T114 h114 v114 P114 K114 Q114
  obtain ⟨e114, g114⟩ := Q114
  subst g114
  subst e114
  show KGo p e below _ T114 m 48 #[.val (.ref a), .val (.ref ca), .val (.int (0 : Int32)), .val (.int (3 : Int32)), .val .null, .val (.ref b)] [(.int (1 : Int32)), (.ref a)]
  refine k_putf (pc' := 51) (ty := .byte) (v' := (.int (1 : Int32))) C P114 (C.w 23 rfl) Via.refl f113_a 0 rfl (Or.inr ⟨(C.w 19 rfl), rfl, rfl⟩) (C.w 4 rfl) (by decide) rfl rfl d2_48 ge_a sz_a rfl ?_
  intro T115 h115 P115 W115
  have f115_a : KOb Z h115 a "java/lang/String" layS [(.int (1 : Int32)), .null] := f113_a.put (lokS C.hw) 0 rfl W115 rfl
  have f115_ca := f113_ca.other W115 (f113_ca.ne_ob f113_a.exa (C.w 4 rfl))
  have f115_S_COMPACT_STRINGS := Sta.wr W115 f113_S_COMPACT_STRINGS
  have f115_S__assertionsDisabled := Sta.wr W115 f113_S__assertionsDisabled
  have f115_S_HI_BYTE_SHIFT := Sta.wr W115 f113_S_HI_BYTE_SHIFT
  have f115_S_LO_BYTE_SHIFT := Sta.wr W115 f113_S_LO_BYTE_SHIFT
  have f115_b := V113_.other W115 (V113_.ne_ob f113_a.exa (C.w 4 rfl))
  refine k_aloadN (pc' := 52) C P115 d2_51 rfl rfl rfl ?_
  refine k_aload (pc' := 54) C P115 d2_52 rfl rfl rfl ?_
  refine k_putf (pc' := 57) (ty := (.array .byte)) (v' := (.ref b)) C P115 (C.w 22 rfl) Via.refl f115_a 1 rfl (Or.inr ⟨(C.w 18 rfl), rfl, rfl⟩) (C.w 4 rfl) (by decide) rfl rfl d2_54 ge_a sz_a rfl ?_
  intro T116 h116 P116 W116
  have f116_a : KOb Z h116 a "java/lang/String" layS [(.int (1 : Int32)), (.ref b)] := f115_a.put (lokS C.hw) 1 rfl W116 rfl
  have f116_ca := f115_ca.other W116 (f115_ca.ne_ob f115_a.exa (C.w 4 rfl))
  have f116_S_COMPACT_STRINGS := Sta.wr W116 f115_S_COMPACT_STRINGS
  have f116_S__assertionsDisabled := Sta.wr W116 f115_S__assertionsDisabled
  have f116_S_HI_BYTE_SHIFT := Sta.wr W116 f115_S_HI_BYTE_SHIFT
  have f116_S_LO_BYTE_SHIFT := Sta.wr W116 f115_S_LO_BYTE_SHIFT
  have f116_b := f115_b.other W116 (f115_b.ne_ob f115_a.exa (C.w 4 rfl))
  exact k_retV C P116 d2_57 (by decide) (by decide) ⟨rfl, b, kb, f116_a, f116_b⟩
theorem ef_rmUN_30 (m : MethodId) (x0 : Addr) (x1 : Addr) : entryFrame m #[(.ref x0), (.ref x1)] 2 = mkF m 0 #[.val (.ref x0), .val (.ref x1)] [] := by first | (simp [entryFrame, mkF, argsToLocals, Value.category]; done) | rfl
set_option maxRecDepth 65536 in
set_option maxHeartbeats 40000000 in
theorem rmUN_30 (l : Launch) (Z : State) (a0 : Array Value) (hw : ∀ d ∈ tables_1, d.before a0 Z = true) (h0 : Heap) (n0 : Nat) (Z0 : n0 ≤ h0.size) (c0 c1 c2 : Int32) (hx : own_ch c0)  (hi_ : 255 < c0) (ca : Addr) (kc : ClassId) (VC : KVA Z h0 ca kc .char 3 (fun j => Value.int (if j = 0 then c0 else if j = 1 then c1 else c2))) (a : Addr) (ge_a : n0 ≤ a) (F : KOb Z h0 a "java/lang/String" layS [.int 0, .null]) (cs : Int32) (hcs : ¬ cs = 0) (SC : Sta Z h0 "java/lang/String" "COMPACT_STRINGS" "Z" (.int cs)) (SA : Sta Z h0 "java/lang/StringUTF16" "$assertionsDisabled" "Z" (.int 1)) (SH : Sta Z h0 "java/lang/StringUTF16" "HI_BYTE_SHIFT" "I" (.int 0)) (SL : Sta Z h0 "java/lang/StringUTF16" "LO_BYTE_SHIFT" "I" (.int 8)) :
    KCt false l (⟨"java/lang/String", "<init>", "([C)V"⟩ : MethodName) jdk_42_method_3_code 2 none ({ frames := 6, cells := 2, slots := 12, locals := 140 } : Room) Z n0 h0 #[(.ref a), (.ref ca)] [a] (fun v h => v = none ∧ ∃ (b : Addr) (kb : ClassId), KOb Z h a "java/lang/String" layS [.int 1, .ref b] ∧ KVA Z h b kb .byte 6 (fun j => .int (if j = 4 then (own_lo c2) else if j = 5 then (own_hi c2) else if j = 2 then (own_lo c1) else if j = 3 then (own_hi c1) else if j = 0 then (own_lo c0) else if j = 1 then (own_hi c0) else (0 : Int32)))) := by
  refine k_enter (tbl := tables_1) (a0 := a0) (Ls := #[.val (.ref a), .val (.ref ca)]) (plainFor_of_name pn_1) hw Z0 (fun m => ef_rmUN_30 m a ca) ?_
  intro p e s m below meth c T C P
  have sz_a : a ∈ [a] ∨ h0.size ≤ a := Or.inl (by simp)
  refine k_aloadN (pc' := 1) C P d1_0 rfl rfl rfl ?_
  refine k_aloadN (pc' := 2) C P d1_1 rfl rfl rfl ?_
  refine k_iconst (z := (0 : Int32)) (pc' := 3) C P d1_2 rfl rfl ?_
  refine k_aloadN (pc' := 4) C P d1_3 rfl rfl rfl ?_
  refine k_arrlen (z := (3 : Int32)) (pc' := 5) C P VC d1_4 rfl rfl ?_
  refine k_aconstNull (pc' := 6) C P d1_5 rfl ?_
  refine k_callN (pc' := 9) (cells' := 2) (slots' := 12) (W := 0) C P rfl (C.w 9 rfl) (C.w 10 rfl) (C.w 12 rfl) (C.w 5 rfl) (by decide) (rmUI_30 l Z a0 hw _ n0 P.size c0 c1 c2 hx  hi_ ca kc VC a ge_a F cs hcs SC SA SH SL) a [(.ref ca), (.int (0 : Int32)), (.int (3 : Int32)), .null] [] rfl (lenOf pd_6 rfl) rfl (Nat.le_of_eq rfl) d1_6 rfl (by decide) (by decide) rfl rfl (by decide) (by decide) (allS sz_a all0) rfl ?_
  intro T117 h117 v117 P117 K117 Q117
  obtain ⟨rfl, b, kb, F117_, V117_⟩ := Q117
  have f117_ca := VC.keep K117 (ninS (VC.ne_ob F.exa (C.w 4 rfl)) nin0)
  have f117_S_COMPACT_STRINGS := k_staKeep SC K117 (k_nsS F.ns k_ns0)
  have f117_S__assertionsDisabled := k_staKeep SA K117 (k_nsS F.ns k_ns0)
  have f117_S_HI_BYTE_SHIFT := k_staKeep SH K117 (k_nsS F.ns k_ns0)
  have f117_S_LO_BYTE_SHIFT := k_staKeep SL K117 (k_nsS F.ns k_ns0)
  show KGo p e below _ T117 m 9 #[.val (.ref a), .val (.ref ca)] []
  exact k_retV C P117 d1_9 (by decide) (by decide) ⟨rfl, b, kb, F117_, V117_⟩
theorem ef_rmU5_31 (m : MethodId) (x0 : Addr) (x1 : Int32) (x2 : Addr) (x3 : Int32) (x4 : Int32) : entryFrame m #[(.ref x0), (.int x1), (.ref x2), (.int x3), (.int x4)] 7 = mkF m 0 #[.val (.ref x0), .val (.int x1), .val (.ref x2), .val (.int x3), .val (.int x4), .unset, .unset] [] := by first | (simp [entryFrame, mkF, argsToLocals, Value.category]; done) | rfl
set_option maxRecDepth 65536 in
set_option maxHeartbeats 40000000 in
theorem rmU5_31 (l : Launch) (Z : State) (a0 : Array Value) (hw : ∀ d ∈ tables_1, d.before a0 Z = true) (h0 : Heap) (n0 : Nat) (Z0 : n0 ≤ h0.size) (c0 c1 c2 : Int32) (hx : own_ch c1) (hc0_ : ¬ 255 < c0) (hi_ : 255 < c1) (ca : Addr) (kc : ClassId) (VC : KVA Z h0 ca kc .char 3 (fun j => Value.int (if j = 0 then c0 else if j = 1 then c1 else c2))) (b : Addr) (kb : ClassId) (VB : KVA Z h0 b kb .byte 3 (fun _ => .int 0)) (ge_b : n0 ≤ b) :
    KCt false l (⟨"java/lang/StringUTF16", "compress", "([CI[BII)I"⟩ : MethodName) jdk_52_method_21_code 7 (some .int) ({ frames := 0, cells := 0, slots := 0, locals := 0 } : Room) Z n0 h0 #[(.ref ca), (.int (0 : Int32)), (.ref b), (.int (0 : Int32)), (.int (3 : Int32))] [b] (fun v h => v = some (.int 1)) := by
  refine k_enter (tbl := tables_1) (a0 := a0) (Ls := #[.val (.ref ca), .val (.int (0 : Int32)), .val (.ref b), .val (.int (0 : Int32)), .val (.int (3 : Int32)), .unset, .unset]) (plainFor_of_name pn_8) hw Z0 (fun m => ef_rmU5_31 m ca (0 : Int32) b (0 : Int32) (3 : Int32)) ?_
  intro p e s m below meth c T C P
  have sz_b : b ∈ [b] ∨ h0.size ≤ b := Or.inl (by simp)
  refine k_iconst (z := (0 : Int32)) (pc' := 1) C P d8_0 rfl rfl ?_
  refine k_istore (l' := #[.val (.ref ca), .val (.int (0 : Int32)), .val (.ref b), .val (.int (0 : Int32)), .val (.int (3 : Int32)), .val (.int (0 : Int32)), .unset]) (pc' := 3) C P d8_1 rfl rfl ?_
  refine k_iload (pc' := 5) C P d8_3 rfl rfl ?_
  refine k_iload (pc' := 7) C P d8_5 rfl rfl ?_
  refine k_icN (pc' := 10) C P d8_7 (show (0 : Int32) < (3 : Int32) by decide) rfl ?_
  refine k_aloadN (pc' := 11) C P d8_10 rfl rfl rfl ?_
  refine k_iloadN (pc' := 12) C P d8_11 rfl rfl ?_
  refine k_caload (J := 0) (v := (.int c0)) (pc' := 13) C P VC d8_12 rfl (by decide) rfl rfl ?_
  refine k_istore (l' := #[.val (.ref ca), .val (.int (0 : Int32)), .val (.ref b), .val (.int (0 : Int32)), .val (.int (3 : Int32)), .val (.int (0 : Int32)), .val (.int c0)]) (pc' := 15) C P d8_13 rfl rfl ?_
  refine k_iload (pc' := 17) C P d8_15 rfl rfl ?_
  refine k_sipush (z := (255 : Int32)) (pc' := 20) C P d8_17 rfl rfl ?_
  refine k_icY (pc' := 26) C P d8_20 hc0_ (by decide) (by decide) ?_
  refine k_aloadN (pc' := 27) C P d8_26 rfl rfl rfl ?_
  refine k_iloadN (pc' := 28) C P d8_27 rfl rfl ?_
  refine k_iload (pc' := 30) C P d8_28 rfl rfl ?_
  refine k_i2b (pc' := 31) C P d8_30 rfl ?_
  refine k_bastore (J := 0) (g' := _) (pc' := 32) C P VB d8_31 rfl (by decide) (fun i _ => rfl) ge_b sz_b rfl ?_
  intro T118 h118 P118 W118 V118
  have f118_ca := VC.other W118 (KVA.neT VC VB nofun)
  refine k_iinc (z := (1 : Int32)) (l' := #[.val (.ref ca), .val (.int (1 : Int32)), .val (.ref b), .val (.int (0 : Int32)), .val (.int (3 : Int32)), .val (.int (0 : Int32)), .val (.int c0)]) (pc' := 35) C P118 d8_32 rfl rfl rfl rfl ?_
  refine k_iinc (z := (1 : Int32)) (l' := #[.val (.ref ca), .val (.int (1 : Int32)), .val (.ref b), .val (.int (1 : Int32)), .val (.int (3 : Int32)), .val (.int (0 : Int32)), .val (.int c0)]) (pc' := 38) C P118 d8_35 rfl rfl rfl rfl ?_
  refine k_iinc (z := (1 : Int32)) (l' := #[.val (.ref ca), .val (.int (1 : Int32)), .val (.ref b), .val (.int (1 : Int32)), .val (.int (3 : Int32)), .val (.int (1 : Int32)), .val (.int c0)]) (pc' := 41) C P118 d8_38 rfl rfl rfl rfl ?_
  refine k_goto (pc' := 3) C P118 d8_41 (by decide) (by decide) ?_
  refine k_iload (pc' := 5) C P118 d8_3 rfl rfl ?_
  refine k_iload (pc' := 7) C P118 d8_5 rfl rfl ?_
  refine k_icN (pc' := 10) C P118 d8_7 (show (1 : Int32) < (3 : Int32) by decide) rfl ?_
  refine k_aloadN (pc' := 11) C P118 d8_10 rfl rfl rfl ?_
  refine k_iloadN (pc' := 12) C P118 d8_11 rfl rfl ?_
  refine k_caload (J := 1) (v := (.int c1)) (pc' := 13) C P118 f118_ca d8_12 rfl (by decide) rfl rfl ?_
  refine k_istore (l' := #[.val (.ref ca), .val (.int (1 : Int32)), .val (.ref b), .val (.int (1 : Int32)), .val (.int (3 : Int32)), .val (.int (1 : Int32)), .val (.int c1)]) (pc' := 15) C P118 d8_13 rfl rfl ?_
  refine k_iload (pc' := 17) C P118 d8_15 rfl rfl ?_
  refine k_sipush (z := (255 : Int32)) (pc' := 20) C P118 d8_17 rfl rfl ?_
  refine k_icN (pc' := 23) C P118 d8_20 hi_ rfl ?_
  refine k_iload (pc' := 25) C P118 d8_23 rfl rfl ?_
  exact k_retI C P118 d8_25 (by decide) (by decide) rfl
theorem ef_rmU3_31 (m : MethodId) (x0 : Addr) (x1 : Int32) (x2 : Int32) : entryFrame m #[(.ref x0), (.int x1), (.int x2)] 6 = mkF m 0 #[.val (.ref x0), .val (.int x1), .val (.int x2), .unset, .unset, .unset] [] := by first | (simp [entryFrame, mkF, argsToLocals, Value.category]; done) | rfl
set_option maxRecDepth 65536 in
set_option maxHeartbeats 40000000 in
theorem rmU3_31 (l : Launch) (Z : State) (a0 : Array Value) (hw : ∀ d ∈ tables_1, d.before a0 Z = true) (h0 : Heap) (n0 : Nat) (Z0 : n0 ≤ h0.size) (c0 c1 c2 : Int32) (hx : own_ch c1) (hc0_ : ¬ 255 < c0) (hi_ : 255 < c1) (ca : Addr) (kc : ClassId) (VC : KVA Z h0 ca kc .char 3 (fun j => Value.int (if j = 0 then c0 else if j = 1 then c1 else c2))) (SA : Sta Z h0 "java/lang/StringUTF16" "$assertionsDisabled" "Z" (.int 1)) (SH : Sta Z h0 "java/lang/StringUTF16" "HI_BYTE_SHIFT" "I" (.int 0)) (SL : Sta Z h0 "java/lang/StringUTF16" "LO_BYTE_SHIFT" "I" (.int 8)) :
    KCt false l (⟨"java/lang/StringUTF16", "compress", "([CII)[B"⟩ : MethodName) jdk_52_method_16_code 6 (some (.array .byte)) ({ frames := 4, cells := 2, slots := 12, locals := 80 } : Room) Z n0 h0 #[(.ref ca), (.int (0 : Int32)), (.int (3 : Int32))] [] (fun v h => ∃ (b : Addr) (kb : ClassId), v = some (.ref b) ∧ KVA Z h b kb .byte 6 (fun j => .int (if j = 4 then (own_lo c2) else if j = 5 then (own_hi c2) else if j = 2 then (own_lo c1) else if j = 3 then (own_hi c1) else if j = 0 then (own_lo c0) else if j = 1 then (own_hi c0) else (0 : Int32)))) := by
  refine k_enter (tbl := tables_1) (a0 := a0) (Ls := #[.val (.ref ca), .val (.int (0 : Int32)), .val (.int (3 : Int32)), .unset, .unset, .unset]) (plainFor_of_name pn_7) hw Z0 (fun m => ef_rmU3_31 m ca (0 : Int32) (3 : Int32)) ?_
  intro p e s m below meth c T C P
  refine k_iloadN (pc' := 1) C P d7_0 rfl rfl ?_
  refine k_newp (pc' := 3) (cells' := 1) (slots' := 4) (N := 3) (cap := 4) C P (C.w 17 rfl) d7_1 rfl (by decide) (by decide) rfl rfl (by decide) (by decide) rfl ?_
  intro T119 h119 b119 k119 P119 hs119 ge_b119 sz_b119 E119 V119
  have ne_ca_b119 : ca ≠ b119 := Nat.ne_of_lt (hs119 ▸ VC.lt)
  have f119_ca := VC.ext E119
  have f119_S__assertionsDisabled := Sta.ext E119 SA
  have f119_S_HI_BYTE_SHIFT := Sta.ext E119 SH
  have f119_S_LO_BYTE_SHIFT := Sta.ext E119 SL
  refine k_astoreN (l' := #[.val (.ref ca), .val (.int (0 : Int32)), .val (.int (3 : Int32)), .val (.ref b119), .unset, .unset]) (pc' := 4) C P119 d7_3 rfl rfl rfl ?_
  refine k_aloadN (pc' := 5) C P119 d7_4 rfl rfl rfl ?_
  refine k_iloadN (pc' := 6) C P119 d7_5 rfl rfl ?_
  refine k_aloadN (pc' := 7) C P119 d7_6 rfl rfl rfl ?_
  refine k_iconst (z := (0 : Int32)) (pc' := 8) C P119 d7_7 rfl rfl ?_
  refine k_iloadN (pc' := 9) C P119 d7_8 rfl rfl ?_
  refine k_callT (pc' := 12) (cells' := 1) (slots' := 4) (W := 0) C P119 (C.w 43 rfl) (C.w 44 rfl) (C.w 45 rfl) (C.w 41 rfl) (by decide) (rmU5_31 l Z a0 hw _ n0 P119.size c0 c1 c2 hx hc0_ hi_ ca kc f119_ca b119 k119 V119 ge_b119) [(.ref ca), (.int (0 : Int32)), (.ref b119), (.int (0 : Int32)), (.int (3 : Int32))] [] rfl (lenOf pd_3 rfl) rfl (Nat.le_of_eq rfl) d7_9 rfl (by decide) (by decide) rfl rfl (by decide) (by decide) (allS (Or.inr sz_b119) all0) rfl ?_
  intro T120 h120 v120 P120 K120 Q120
  obtain rfl := Q120
  have f120_ca := f119_ca.keep K120 (ninS ne_ca_b119 nin0)
  have f120_S__assertionsDisabled := k_staKeep f119_S__assertionsDisabled K120 (k_nsS V119.ns k_ns0)
  have f120_S_HI_BYTE_SHIFT := k_staKeep f119_S_HI_BYTE_SHIFT K120 (k_nsS V119.ns k_ns0)
  have f120_S_LO_BYTE_SHIFT := k_staKeep f119_S_LO_BYTE_SHIFT K120 (k_nsS V119.ns k_ns0)
  show KGo p e below _ T120 m 12 #[.val (.ref ca), .val (.int (0 : Int32)), .val (.int (3 : Int32)), .val (.ref b119), .unset, .unset] [(.int (1 : Int32))]
  refine k_istore (l' := #[.val (.ref ca), .val (.int (0 : Int32)), .val (.int (3 : Int32)), .val (.ref b119), .val (.int (1 : Int32)), .unset]) (pc' := 14) C P120 d7_12 rfl rfl ?_
  refine k_iload (pc' := 16) C P120 d7_14 rfl rfl ?_
  refine k_iloadN (pc' := 17) C P120 d7_16 rfl rfl ?_
  refine k_icN (pc' := 20) C P120 d7_17 (show ¬ (1 : Int32) = (3 : Int32) by decide) rfl ?_
  refine k_aloadN (pc' := 21) C P120 d7_20 rfl rfl rfl ?_
  refine k_iloadN (pc' := 22) C P120 d7_21 rfl rfl ?_
  refine k_iloadN (pc' := 23) C P120 d7_22 rfl rfl ?_
  refine k_callT (pc' := 26) (cells' := 2) (slots' := 10) (W := 0) C P120 (C.w 71 rfl) (C.w 72 rfl) (C.w 73 rfl) (C.w 41 rfl) (by decide) (rmTB3 l Z a0 hw _ n0 P120.size c0 c1 c2 ca kc f120_ca f120_S__assertionsDisabled f120_S_HI_BYTE_SHIFT f120_S_LO_BYTE_SHIFT) [(.ref ca), (.int (0 : Int32)), (.int (3 : Int32))] [] rfl (lenOf pd_4 rfl) rfl (Nat.le_of_eq rfl) d7_23 rfl (by decide) (by decide) rfl rfl (by decide) (by decide) all0 rfl ?_
  intro T121 h121 v121 P121 K121 Q121
  obtain ⟨y, ky, rfl, V121_⟩ := Q121
  have f121_ca := f120_ca.keep K121 nin0
  have f121_S__assertionsDisabled := k_staKeep f120_S__assertionsDisabled K121 k_ns0
  have f121_S_HI_BYTE_SHIFT := k_staKeep f120_S_HI_BYTE_SHIFT K121 k_ns0
  have f121_S_LO_BYTE_SHIFT := k_staKeep f120_S_LO_BYTE_SHIFT K121 k_ns0
  show KGo p e below _ T121 m 26 #[.val (.ref ca), .val (.int (0 : Int32)), .val (.int (3 : Int32)), .val (.ref b119), .val (.int (1 : Int32)), .unset] [(.ref y)]
  refine k_astore (l' := #[.val (.ref ca), .val (.int (0 : Int32)), .val (.int (3 : Int32)), .val (.ref b119), .val (.int (1 : Int32)), .val (.ref y)]) (pc' := 28) C P121 d7_26 rfl rfl rfl ?_
  refine k_aload (pc' := 30) C P121 d7_28 rfl rfl rfl ?_
  refine k_iload (pc' := 32) C P121 d7_30 rfl rfl ?_
  refine k_callT (pc' := 35) (cells' := 2) (slots' := 10) (W := 0) C P121 (C.w 87 rfl) (C.w 88 rfl) (C.w 89 rfl) (C.w 41 rfl) (by decide) (rmGC1 l Z a0 hw _ n0 P121.size y ky 6 (by decide) (fun j => if j = 4 then (own_lo c2) else if j = 5 then (own_hi c2) else if j = 2 then (own_lo c1) else if j = 3 then (own_hi c1) else if j = 0 then (own_lo c0) else if j = 1 then (own_hi c0) else (0 : Int32)) c1 hx rfl rfl f121_S__assertionsDisabled f121_S_HI_BYTE_SHIFT f121_S_LO_BYTE_SHIFT V121_) [(.ref y), (.int (1 : Int32))] [] rfl (lenOf pd_7 rfl) rfl (Nat.le_of_eq rfl) d7_32 rfl (by decide) (by decide) rfl rfl (by decide) (by decide) all0 rfl ?_
  intro T122 h122 v122 P122 K122 Q122
  obtain ⟨e122, g122⟩ := Q122
  subst g122
  subst e122
  show KGo p e below _ T122 m 35 #[.val (.ref ca), .val (.int (0 : Int32)), .val (.int (3 : Int32)), .val (.ref b119), .val (.int (1 : Int32)), .val (.ref y)] [(.int c1)]
  refine k_sipush (z := (255 : Int32)) (pc' := 38) C P122 d7_35 rfl rfl ?_
  refine k_icY (pc' := 54) C P122 d7_38 hi_ (by decide) (by decide) ?_
  refine k_aload (pc' := 56) C P122 d7_54 rfl rfl rfl ?_
  exact k_retA C P122 d7_56 rfl rfl (by decide) (by decide) ⟨_, _, rfl, V121_⟩
theorem ef_rmUI_31 (m : MethodId) (x0 : Addr) (x1 : Addr) (x2 : Int32) (x3 : Int32) : entryFrame m #[(.ref x0), (.ref x1), (.int x2), (.int x3), .null] 6 = mkF m 0 #[.val (.ref x0), .val (.ref x1), .val (.int x2), .val (.int x3), .val .null, .unset] [] := by first | (simp [entryFrame, mkF, argsToLocals, Value.category]; done) | rfl
set_option maxRecDepth 65536 in
set_option maxHeartbeats 40000000 in
theorem rmUI_31 (l : Launch) (Z : State) (a0 : Array Value) (hw : ∀ d ∈ tables_1, d.before a0 Z = true) (h0 : Heap) (n0 : Nat) (Z0 : n0 ≤ h0.size) (c0 c1 c2 : Int32) (hx : own_ch c1) (hc0_ : ¬ 255 < c0) (hi_ : 255 < c1) (ca : Addr) (kc : ClassId) (VC : KVA Z h0 ca kc .char 3 (fun j => Value.int (if j = 0 then c0 else if j = 1 then c1 else c2))) (a : Addr) (ge_a : n0 ≤ a) (F : KOb Z h0 a "java/lang/String" layS [.int 0, .null]) (cs : Int32) (hcs : ¬ cs = 0) (SC : Sta Z h0 "java/lang/String" "COMPACT_STRINGS" "Z" (.int cs)) (SA : Sta Z h0 "java/lang/StringUTF16" "$assertionsDisabled" "Z" (.int 1)) (SH : Sta Z h0 "java/lang/StringUTF16" "HI_BYTE_SHIFT" "I" (.int 0)) (SL : Sta Z h0 "java/lang/StringUTF16" "LO_BYTE_SHIFT" "I" (.int 8)) :
    KCt false l (⟨"java/lang/String", "<init>", "([CIILjava/lang/Void;)V"⟩ : MethodName) jdk_42_method_149_code 6 none ({ frames := 5, cells := 2, slots := 12, locals := 110 } : Room) Z n0 h0 #[(.ref a), (.ref ca), (.int (0 : Int32)), (.int (3 : Int32)), .null] [a] (fun v h => v = none ∧ ∃ (b : Addr) (kb : ClassId), KOb Z h a "java/lang/String" layS [.int 1, .ref b] ∧ KVA Z h b kb .byte 6 (fun j => .int (if j = 4 then (own_lo c2) else if j = 5 then (own_hi c2) else if j = 2 then (own_lo c1) else if j = 3 then (own_hi c1) else if j = 0 then (own_lo c0) else if j = 1 then (own_hi c0) else (0 : Int32)))) := by
  refine k_enter (tbl := tables_1) (a0 := a0) (Ls := #[.val (.ref a), .val (.ref ca), .val (.int (0 : Int32)), .val (.int (3 : Int32)), .val .null, .unset]) (plainFor_of_name pn_2) hw Z0 (fun m => ef_rmUI_31 m a ca (0 : Int32) (3 : Int32)) ?_
  intro p e s m below meth c T C P
  have sz_a : a ∈ [a] ∨ h0.size ≤ a := Or.inl (by simp)
  refine k_aloadN (pc' := 1) C P d2_0 rfl rfl rfl ?_
  refine k_initObj (pc' := 4) (W := 0) C P (C.w 13 rfl) (C.w 14 rfl) (C.w 15 rfl) d2_1 rfl (by decide) (by decide) (by decide) rfl ?_
  intro T123 P123
  refine k_iloadN (pc' := 5) C P123 d2_4 rfl rfl ?_
  refine k_ifY (pc' := 27) C P123 d2_5 (show ¬ (3 : Int32) = (0 : Int32) by decide) (by decide) (by decide) ?_
  refine k_gets (pc' := 30) C P123 (C.w 38 rfl) Via.refl SC d2_27 rfl ?_
  intro T124 P124
  refine k_ifN (pc' := 33) C P124 d2_30 hcs rfl ?_
  refine k_aloadN (pc' := 34) C P124 d2_33 rfl rfl rfl ?_
  refine k_iloadN (pc' := 35) C P124 d2_34 rfl rfl ?_
  refine k_iloadN (pc' := 36) C P124 d2_35 rfl rfl ?_
  refine k_callT (pc' := 39) (cells' := 2) (slots' := 12) (W := 0) C P124 (C.w 39 rfl) (C.w 40 rfl) (C.w 42 rfl) (C.w 41 rfl) (by decide) (rmU3_31 l Z a0 hw _ n0 P124.size c0 c1 c2 hx hc0_ hi_ ca kc VC SA SH SL) [(.ref ca), (.int (0 : Int32)), (.int (3 : Int32))] [] rfl (lenOf pd_4 rfl) rfl (Nat.le_of_eq rfl) d2_36 rfl (by decide) (by decide) rfl rfl (by decide) (by decide) all0 rfl ?_
  intro T125 h125 v125 P125 K125 Q125
  obtain ⟨b, kb, rfl, V125_⟩ := Q125
  have f125_a := F.keep K125 nin0
  have f125_ca := VC.keep K125 nin0
  have f125_S_COMPACT_STRINGS := k_staKeep SC K125 k_ns0
  have f125_S__assertionsDisabled := k_staKeep SA K125 k_ns0
  have f125_S_HI_BYTE_SHIFT := k_staKeep SH K125 k_ns0
  have f125_S_LO_BYTE_SHIFT := k_staKeep SL K125 k_ns0
  show KGo p e below _ T125 m 39 #[.val (.ref a), .val (.ref ca), .val (.int (0 : Int32)), .val (.int (3 : Int32)), .val .null, .unset] [(.ref b)]
  refine k_astore (l' := #[.val (.ref a), .val (.ref ca), .val (.int (0 : Int32)), .val (.int (3 : Int32)), .val .null, .val (.ref b)]) (pc' := 41) C P125 d2_39 rfl rfl rfl ?_
  refine k_aloadN (pc' := 42) C P125 d2_41 rfl rfl rfl ?_
  refine k_aload (pc' := 44) C P125 d2_42 rfl rfl rfl ?_
  refine k_iloadN (pc' := 45) C P125 d2_44 rfl rfl ?_
  refine k_callT (pc' := 48) (cells' := 2) (slots' := 12) (W := 1) C P125 (C.w 46 rfl) (C.w 47 rfl) (C.w 48 rfl) (C.w 41 rfl) (by decide) (rmCU_3 l Z a0 hw _ n0 P125.size b kb _ V125_) [(.ref b), (.int (3 : Int32))] [(.ref a)] rfl (lenOf pd_5 rfl) rfl (Nat.le_of_eq rfl) d2_45 rfl (by decide) (by decide) rfl rfl (by decide) (by decide) all0 rfl ?_
  intro T126 h126 v126 P126 K126 Q126
  obtain ⟨e126, g126⟩ := Q126
  subst g126
  subst e126
  show KGo p e below _ T126 m 48 #[.val (.ref a), .val (.ref ca), .val (.int (0 : Int32)), .val (.int (3 : Int32)), .val .null, .val (.ref b)] [(.int (1 : Int32)), (.ref a)]
  refine k_putf (pc' := 51) (ty := .byte) (v' := (.int (1 : Int32))) C P126 (C.w 23 rfl) Via.refl f125_a 0 rfl (Or.inr ⟨(C.w 19 rfl), rfl, rfl⟩) (C.w 4 rfl) (by decide) rfl rfl d2_48 ge_a sz_a rfl ?_
  intro T127 h127 P127 W127
  have f127_a : KOb Z h127 a "java/lang/String" layS [(.int (1 : Int32)), .null] := f125_a.put (lokS C.hw) 0 rfl W127 rfl
  have f127_ca := f125_ca.other W127 (f125_ca.ne_ob f125_a.exa (C.w 4 rfl))
  have f127_S_COMPACT_STRINGS := Sta.wr W127 f125_S_COMPACT_STRINGS
  have f127_S__assertionsDisabled := Sta.wr W127 f125_S__assertionsDisabled
  have f127_S_HI_BYTE_SHIFT := Sta.wr W127 f125_S_HI_BYTE_SHIFT
  have f127_S_LO_BYTE_SHIFT := Sta.wr W127 f125_S_LO_BYTE_SHIFT
  have f127_b := V125_.other W127 (V125_.ne_ob f125_a.exa (C.w 4 rfl))
  refine k_aloadN (pc' := 52) C P127 d2_51 rfl rfl rfl ?_
  refine k_aload (pc' := 54) C P127 d2_52 rfl rfl rfl ?_
  refine k_putf (pc' := 57) (ty := (.array .byte)) (v' := (.ref b)) C P127 (C.w 22 rfl) Via.refl f127_a 1 rfl (Or.inr ⟨(C.w 18 rfl), rfl, rfl⟩) (C.w 4 rfl) (by decide) rfl rfl d2_54 ge_a sz_a rfl ?_
  intro T128 h128 P128 W128
  have f128_a : KOb Z h128 a "java/lang/String" layS [(.int (1 : Int32)), (.ref b)] := f127_a.put (lokS C.hw) 1 rfl W128 rfl
  have f128_ca := f127_ca.other W128 (f127_ca.ne_ob f127_a.exa (C.w 4 rfl))
  have f128_S_COMPACT_STRINGS := Sta.wr W128 f127_S_COMPACT_STRINGS
  have f128_S__assertionsDisabled := Sta.wr W128 f127_S__assertionsDisabled
  have f128_S_HI_BYTE_SHIFT := Sta.wr W128 f127_S_HI_BYTE_SHIFT
  have f128_S_LO_BYTE_SHIFT := Sta.wr W128 f127_S_LO_BYTE_SHIFT
  have f128_b := f127_b.other W128 (f127_b.ne_ob f127_a.exa (C.w 4 rfl))
  exact k_retV C P128 d2_57 (by decide) (by decide) ⟨rfl, b, kb, f128_a, f128_b⟩
theorem ef_rmUN_31 (m : MethodId) (x0 : Addr) (x1 : Addr) : entryFrame m #[(.ref x0), (.ref x1)] 2 = mkF m 0 #[.val (.ref x0), .val (.ref x1)] [] := by first | (simp [entryFrame, mkF, argsToLocals, Value.category]; done) | rfl
set_option maxRecDepth 65536 in
set_option maxHeartbeats 40000000 in
theorem rmUN_31 (l : Launch) (Z : State) (a0 : Array Value) (hw : ∀ d ∈ tables_1, d.before a0 Z = true) (h0 : Heap) (n0 : Nat) (Z0 : n0 ≤ h0.size) (c0 c1 c2 : Int32) (hx : own_ch c1) (hc0_ : ¬ 255 < c0) (hi_ : 255 < c1) (ca : Addr) (kc : ClassId) (VC : KVA Z h0 ca kc .char 3 (fun j => Value.int (if j = 0 then c0 else if j = 1 then c1 else c2))) (a : Addr) (ge_a : n0 ≤ a) (F : KOb Z h0 a "java/lang/String" layS [.int 0, .null]) (cs : Int32) (hcs : ¬ cs = 0) (SC : Sta Z h0 "java/lang/String" "COMPACT_STRINGS" "Z" (.int cs)) (SA : Sta Z h0 "java/lang/StringUTF16" "$assertionsDisabled" "Z" (.int 1)) (SH : Sta Z h0 "java/lang/StringUTF16" "HI_BYTE_SHIFT" "I" (.int 0)) (SL : Sta Z h0 "java/lang/StringUTF16" "LO_BYTE_SHIFT" "I" (.int 8)) :
    KCt false l (⟨"java/lang/String", "<init>", "([C)V"⟩ : MethodName) jdk_42_method_3_code 2 none ({ frames := 6, cells := 2, slots := 12, locals := 140 } : Room) Z n0 h0 #[(.ref a), (.ref ca)] [a] (fun v h => v = none ∧ ∃ (b : Addr) (kb : ClassId), KOb Z h a "java/lang/String" layS [.int 1, .ref b] ∧ KVA Z h b kb .byte 6 (fun j => .int (if j = 4 then (own_lo c2) else if j = 5 then (own_hi c2) else if j = 2 then (own_lo c1) else if j = 3 then (own_hi c1) else if j = 0 then (own_lo c0) else if j = 1 then (own_hi c0) else (0 : Int32)))) := by
  refine k_enter (tbl := tables_1) (a0 := a0) (Ls := #[.val (.ref a), .val (.ref ca)]) (plainFor_of_name pn_1) hw Z0 (fun m => ef_rmUN_31 m a ca) ?_
  intro p e s m below meth c T C P
  have sz_a : a ∈ [a] ∨ h0.size ≤ a := Or.inl (by simp)
  refine k_aloadN (pc' := 1) C P d1_0 rfl rfl rfl ?_
  refine k_aloadN (pc' := 2) C P d1_1 rfl rfl rfl ?_
  refine k_iconst (z := (0 : Int32)) (pc' := 3) C P d1_2 rfl rfl ?_
  refine k_aloadN (pc' := 4) C P d1_3 rfl rfl rfl ?_
  refine k_arrlen (z := (3 : Int32)) (pc' := 5) C P VC d1_4 rfl rfl ?_
  refine k_aconstNull (pc' := 6) C P d1_5 rfl ?_
  refine k_callN (pc' := 9) (cells' := 2) (slots' := 12) (W := 0) C P rfl (C.w 9 rfl) (C.w 10 rfl) (C.w 12 rfl) (C.w 5 rfl) (by decide) (rmUI_31 l Z a0 hw _ n0 P.size c0 c1 c2 hx hc0_ hi_ ca kc VC a ge_a F cs hcs SC SA SH SL) a [(.ref ca), (.int (0 : Int32)), (.int (3 : Int32)), .null] [] rfl (lenOf pd_6 rfl) rfl (Nat.le_of_eq rfl) d1_6 rfl (by decide) (by decide) rfl rfl (by decide) (by decide) (allS sz_a all0) rfl ?_
  intro T129 h129 v129 P129 K129 Q129
  obtain ⟨rfl, b, kb, F129_, V129_⟩ := Q129
  have f129_ca := VC.keep K129 (ninS (VC.ne_ob F.exa (C.w 4 rfl)) nin0)
  have f129_S_COMPACT_STRINGS := k_staKeep SC K129 (k_nsS F.ns k_ns0)
  have f129_S__assertionsDisabled := k_staKeep SA K129 (k_nsS F.ns k_ns0)
  have f129_S_HI_BYTE_SHIFT := k_staKeep SH K129 (k_nsS F.ns k_ns0)
  have f129_S_LO_BYTE_SHIFT := k_staKeep SL K129 (k_nsS F.ns k_ns0)
  show KGo p e below _ T129 m 9 #[.val (.ref a), .val (.ref ca)] []
  exact k_retV C P129 d1_9 (by decide) (by decide) ⟨rfl, b, kb, F129_, V129_⟩
theorem ef_rmU5_32 (m : MethodId) (x0 : Addr) (x1 : Int32) (x2 : Addr) (x3 : Int32) (x4 : Int32) : entryFrame m #[(.ref x0), (.int x1), (.ref x2), (.int x3), (.int x4)] 7 = mkF m 0 #[.val (.ref x0), .val (.int x1), .val (.ref x2), .val (.int x3), .val (.int x4), .unset, .unset] [] := by first | (simp [entryFrame, mkF, argsToLocals, Value.category]; done) | rfl
set_option maxRecDepth 65536 in
set_option maxHeartbeats 40000000 in
theorem rmU5_32 (l : Launch) (Z : State) (a0 : Array Value) (hw : ∀ d ∈ tables_1, d.before a0 Z = true) (h0 : Heap) (n0 : Nat) (Z0 : n0 ≤ h0.size) (c0 c1 c2 : Int32) (hx : own_ch c2) (hc0_ : ¬ 255 < c0) (hc1_ : ¬ 255 < c1) (hi_ : 255 < c2) (ca : Addr) (kc : ClassId) (VC : KVA Z h0 ca kc .char 3 (fun j => Value.int (if j = 0 then c0 else if j = 1 then c1 else c2))) (b : Addr) (kb : ClassId) (VB : KVA Z h0 b kb .byte 3 (fun _ => .int 0)) (ge_b : n0 ≤ b) :
    KCt false l (⟨"java/lang/StringUTF16", "compress", "([CI[BII)I"⟩ : MethodName) jdk_52_method_21_code 7 (some .int) ({ frames := 0, cells := 0, slots := 0, locals := 0 } : Room) Z n0 h0 #[(.ref ca), (.int (0 : Int32)), (.ref b), (.int (0 : Int32)), (.int (3 : Int32))] [b] (fun v h => v = some (.int 2)) := by
  refine k_enter (tbl := tables_1) (a0 := a0) (Ls := #[.val (.ref ca), .val (.int (0 : Int32)), .val (.ref b), .val (.int (0 : Int32)), .val (.int (3 : Int32)), .unset, .unset]) (plainFor_of_name pn_8) hw Z0 (fun m => ef_rmU5_32 m ca (0 : Int32) b (0 : Int32) (3 : Int32)) ?_
  intro p e s m below meth c T C P
  have sz_b : b ∈ [b] ∨ h0.size ≤ b := Or.inl (by simp)
  refine k_iconst (z := (0 : Int32)) (pc' := 1) C P d8_0 rfl rfl ?_
  refine k_istore (l' := #[.val (.ref ca), .val (.int (0 : Int32)), .val (.ref b), .val (.int (0 : Int32)), .val (.int (3 : Int32)), .val (.int (0 : Int32)), .unset]) (pc' := 3) C P d8_1 rfl rfl ?_
  refine k_iload (pc' := 5) C P d8_3 rfl rfl ?_
  refine k_iload (pc' := 7) C P d8_5 rfl rfl ?_
  refine k_icN (pc' := 10) C P d8_7 (show (0 : Int32) < (3 : Int32) by decide) rfl ?_
  refine k_aloadN (pc' := 11) C P d8_10 rfl rfl rfl ?_
  refine k_iloadN (pc' := 12) C P d8_11 rfl rfl ?_
  refine k_caload (J := 0) (v := (.int c0)) (pc' := 13) C P VC d8_12 rfl (by decide) rfl rfl ?_
  refine k_istore (l' := #[.val (.ref ca), .val (.int (0 : Int32)), .val (.ref b), .val (.int (0 : Int32)), .val (.int (3 : Int32)), .val (.int (0 : Int32)), .val (.int c0)]) (pc' := 15) C P d8_13 rfl rfl ?_
  refine k_iload (pc' := 17) C P d8_15 rfl rfl ?_
  refine k_sipush (z := (255 : Int32)) (pc' := 20) C P d8_17 rfl rfl ?_
  refine k_icY (pc' := 26) C P d8_20 hc0_ (by decide) (by decide) ?_
  refine k_aloadN (pc' := 27) C P d8_26 rfl rfl rfl ?_
  refine k_iloadN (pc' := 28) C P d8_27 rfl rfl ?_
  refine k_iload (pc' := 30) C P d8_28 rfl rfl ?_
  refine k_i2b (pc' := 31) C P d8_30 rfl ?_
  refine k_bastore (J := 0) (g' := _) (pc' := 32) C P VB d8_31 rfl (by decide) (fun i _ => rfl) ge_b sz_b rfl ?_
  intro T130 h130 P130 W130 V130
  have f130_ca := VC.other W130 (KVA.neT VC VB nofun)
  refine k_iinc (z := (1 : Int32)) (l' := #[.val (.ref ca), .val (.int (1 : Int32)), .val (.ref b), .val (.int (0 : Int32)), .val (.int (3 : Int32)), .val (.int (0 : Int32)), .val (.int c0)]) (pc' := 35) C P130 d8_32 rfl rfl rfl rfl ?_
  refine k_iinc (z := (1 : Int32)) (l' := #[.val (.ref ca), .val (.int (1 : Int32)), .val (.ref b), .val (.int (1 : Int32)), .val (.int (3 : Int32)), .val (.int (0 : Int32)), .val (.int c0)]) (pc' := 38) C P130 d8_35 rfl rfl rfl rfl ?_
  refine k_iinc (z := (1 : Int32)) (l' := #[.val (.ref ca), .val (.int (1 : Int32)), .val (.ref b), .val (.int (1 : Int32)), .val (.int (3 : Int32)), .val (.int (1 : Int32)), .val (.int c0)]) (pc' := 41) C P130 d8_38 rfl rfl rfl rfl ?_
  refine k_goto (pc' := 3) C P130 d8_41 (by decide) (by decide) ?_
  refine k_iload (pc' := 5) C P130 d8_3 rfl rfl ?_
  refine k_iload (pc' := 7) C P130 d8_5 rfl rfl ?_
  refine k_icN (pc' := 10) C P130 d8_7 (show (1 : Int32) < (3 : Int32) by decide) rfl ?_
  refine k_aloadN (pc' := 11) C P130 d8_10 rfl rfl rfl ?_
  refine k_iloadN (pc' := 12) C P130 d8_11 rfl rfl ?_
  refine k_caload (J := 1) (v := (.int c1)) (pc' := 13) C P130 f130_ca d8_12 rfl (by decide) rfl rfl ?_
  refine k_istore (l' := #[.val (.ref ca), .val (.int (1 : Int32)), .val (.ref b), .val (.int (1 : Int32)), .val (.int (3 : Int32)), .val (.int (1 : Int32)), .val (.int c1)]) (pc' := 15) C P130 d8_13 rfl rfl ?_
  refine k_iload (pc' := 17) C P130 d8_15 rfl rfl ?_
  refine k_sipush (z := (255 : Int32)) (pc' := 20) C P130 d8_17 rfl rfl ?_
  refine k_icY (pc' := 26) C P130 d8_20 hc1_ (by decide) (by decide) ?_
  refine k_aloadN (pc' := 27) C P130 d8_26 rfl rfl rfl ?_
  refine k_iloadN (pc' := 28) C P130 d8_27 rfl rfl ?_
  refine k_iload (pc' := 30) C P130 d8_28 rfl rfl ?_
  refine k_i2b (pc' := 31) C P130 d8_30 rfl ?_
  refine k_bastore (J := 1) (g' := _) (pc' := 32) C P130 V130 d8_31 rfl (by decide) (fun i _ => rfl) ge_b sz_b rfl ?_
  intro T131 h131 P131 W131 V131
  have f131_ca := f130_ca.other W131 (KVA.neT f130_ca V130 nofun)
  refine k_iinc (z := (2 : Int32)) (l' := #[.val (.ref ca), .val (.int (2 : Int32)), .val (.ref b), .val (.int (1 : Int32)), .val (.int (3 : Int32)), .val (.int (1 : Int32)), .val (.int c1)]) (pc' := 35) C P131 d8_32 rfl rfl rfl rfl ?_
  refine k_iinc (z := (2 : Int32)) (l' := #[.val (.ref ca), .val (.int (2 : Int32)), .val (.ref b), .val (.int (2 : Int32)), .val (.int (3 : Int32)), .val (.int (1 : Int32)), .val (.int c1)]) (pc' := 38) C P131 d8_35 rfl rfl rfl rfl ?_
  refine k_iinc (z := (2 : Int32)) (l' := #[.val (.ref ca), .val (.int (2 : Int32)), .val (.ref b), .val (.int (2 : Int32)), .val (.int (3 : Int32)), .val (.int (2 : Int32)), .val (.int c1)]) (pc' := 41) C P131 d8_38 rfl rfl rfl rfl ?_
  refine k_goto (pc' := 3) C P131 d8_41 (by decide) (by decide) ?_
  refine k_iload (pc' := 5) C P131 d8_3 rfl rfl ?_
  refine k_iload (pc' := 7) C P131 d8_5 rfl rfl ?_
  refine k_icN (pc' := 10) C P131 d8_7 (show (2 : Int32) < (3 : Int32) by decide) rfl ?_
  refine k_aloadN (pc' := 11) C P131 d8_10 rfl rfl rfl ?_
  refine k_iloadN (pc' := 12) C P131 d8_11 rfl rfl ?_
  refine k_caload (J := 2) (v := (.int c2)) (pc' := 13) C P131 f131_ca d8_12 rfl (by decide) rfl rfl ?_
  refine k_istore (l' := #[.val (.ref ca), .val (.int (2 : Int32)), .val (.ref b), .val (.int (2 : Int32)), .val (.int (3 : Int32)), .val (.int (2 : Int32)), .val (.int c2)]) (pc' := 15) C P131 d8_13 rfl rfl ?_
  refine k_iload (pc' := 17) C P131 d8_15 rfl rfl ?_
  refine k_sipush (z := (255 : Int32)) (pc' := 20) C P131 d8_17 rfl rfl ?_
  refine k_icN (pc' := 23) C P131 d8_20 hi_ rfl ?_
  refine k_iload (pc' := 25) C P131 d8_23 rfl rfl ?_
  exact k_retI C P131 d8_25 (by decide) (by decide) rfl
theorem ef_rmU3_32 (m : MethodId) (x0 : Addr) (x1 : Int32) (x2 : Int32) : entryFrame m #[(.ref x0), (.int x1), (.int x2)] 6 = mkF m 0 #[.val (.ref x0), .val (.int x1), .val (.int x2), .unset, .unset, .unset] [] := by first | (simp [entryFrame, mkF, argsToLocals, Value.category]; done) | rfl
set_option maxRecDepth 65536 in
set_option maxHeartbeats 40000000 in
theorem rmU3_32 (l : Launch) (Z : State) (a0 : Array Value) (hw : ∀ d ∈ tables_1, d.before a0 Z = true) (h0 : Heap) (n0 : Nat) (Z0 : n0 ≤ h0.size) (c0 c1 c2 : Int32) (hx : own_ch c2) (hc0_ : ¬ 255 < c0) (hc1_ : ¬ 255 < c1) (hi_ : 255 < c2) (ca : Addr) (kc : ClassId) (VC : KVA Z h0 ca kc .char 3 (fun j => Value.int (if j = 0 then c0 else if j = 1 then c1 else c2))) (SA : Sta Z h0 "java/lang/StringUTF16" "$assertionsDisabled" "Z" (.int 1)) (SH : Sta Z h0 "java/lang/StringUTF16" "HI_BYTE_SHIFT" "I" (.int 0)) (SL : Sta Z h0 "java/lang/StringUTF16" "LO_BYTE_SHIFT" "I" (.int 8)) :
    KCt false l (⟨"java/lang/StringUTF16", "compress", "([CII)[B"⟩ : MethodName) jdk_52_method_16_code 6 (some (.array .byte)) ({ frames := 4, cells := 2, slots := 12, locals := 80 } : Room) Z n0 h0 #[(.ref ca), (.int (0 : Int32)), (.int (3 : Int32))] [] (fun v h => ∃ (b : Addr) (kb : ClassId), v = some (.ref b) ∧ KVA Z h b kb .byte 6 (fun j => .int (if j = 4 then (own_lo c2) else if j = 5 then (own_hi c2) else if j = 2 then (own_lo c1) else if j = 3 then (own_hi c1) else if j = 0 then (own_lo c0) else if j = 1 then (own_hi c0) else (0 : Int32)))) := by
  refine k_enter (tbl := tables_1) (a0 := a0) (Ls := #[.val (.ref ca), .val (.int (0 : Int32)), .val (.int (3 : Int32)), .unset, .unset, .unset]) (plainFor_of_name pn_7) hw Z0 (fun m => ef_rmU3_32 m ca (0 : Int32) (3 : Int32)) ?_
  intro p e s m below meth c T C P
  refine k_iloadN (pc' := 1) C P d7_0 rfl rfl ?_
  refine k_newp (pc' := 3) (cells' := 1) (slots' := 4) (N := 3) (cap := 4) C P (C.w 17 rfl) d7_1 rfl (by decide) (by decide) rfl rfl (by decide) (by decide) rfl ?_
  intro T132 h132 b132 k132 P132 hs132 ge_b132 sz_b132 E132 V132
  have ne_ca_b132 : ca ≠ b132 := Nat.ne_of_lt (hs132 ▸ VC.lt)
  have f132_ca := VC.ext E132
  have f132_S__assertionsDisabled := Sta.ext E132 SA
  have f132_S_HI_BYTE_SHIFT := Sta.ext E132 SH
  have f132_S_LO_BYTE_SHIFT := Sta.ext E132 SL
  refine k_astoreN (l' := #[.val (.ref ca), .val (.int (0 : Int32)), .val (.int (3 : Int32)), .val (.ref b132), .unset, .unset]) (pc' := 4) C P132 d7_3 rfl rfl rfl ?_
  refine k_aloadN (pc' := 5) C P132 d7_4 rfl rfl rfl ?_
  refine k_iloadN (pc' := 6) C P132 d7_5 rfl rfl ?_
  refine k_aloadN (pc' := 7) C P132 d7_6 rfl rfl rfl ?_
  refine k_iconst (z := (0 : Int32)) (pc' := 8) C P132 d7_7 rfl rfl ?_
  refine k_iloadN (pc' := 9) C P132 d7_8 rfl rfl ?_
  refine k_callT (pc' := 12) (cells' := 1) (slots' := 4) (W := 0) C P132 (C.w 43 rfl) (C.w 44 rfl) (C.w 45 rfl) (C.w 41 rfl) (by decide) (rmU5_32 l Z a0 hw _ n0 P132.size c0 c1 c2 hx hc0_ hc1_ hi_ ca kc f132_ca b132 k132 V132 ge_b132) [(.ref ca), (.int (0 : Int32)), (.ref b132), (.int (0 : Int32)), (.int (3 : Int32))] [] rfl (lenOf pd_3 rfl) rfl (Nat.le_of_eq rfl) d7_9 rfl (by decide) (by decide) rfl rfl (by decide) (by decide) (allS (Or.inr sz_b132) all0) rfl ?_
  intro T133 h133 v133 P133 K133 Q133
  obtain rfl := Q133
  have f133_ca := f132_ca.keep K133 (ninS ne_ca_b132 nin0)
  have f133_S__assertionsDisabled := k_staKeep f132_S__assertionsDisabled K133 (k_nsS V132.ns k_ns0)
  have f133_S_HI_BYTE_SHIFT := k_staKeep f132_S_HI_BYTE_SHIFT K133 (k_nsS V132.ns k_ns0)
  have f133_S_LO_BYTE_SHIFT := k_staKeep f132_S_LO_BYTE_SHIFT K133 (k_nsS V132.ns k_ns0)
  show KGo p e below _ T133 m 12 #[.val (.ref ca), .val (.int (0 : Int32)), .val (.int (3 : Int32)), .val (.ref b132), .unset, .unset] [(.int (2 : Int32))]
  refine k_istore (l' := #[.val (.ref ca), .val (.int (0 : Int32)), .val (.int (3 : Int32)), .val (.ref b132), .val (.int (2 : Int32)), .unset]) (pc' := 14) C P133 d7_12 rfl rfl ?_
  refine k_iload (pc' := 16) C P133 d7_14 rfl rfl ?_
  refine k_iloadN (pc' := 17) C P133 d7_16 rfl rfl ?_
  refine k_icN (pc' := 20) C P133 d7_17 (show ¬ (2 : Int32) = (3 : Int32) by decide) rfl ?_
  refine k_aloadN (pc' := 21) C P133 d7_20 rfl rfl rfl ?_
  refine k_iloadN (pc' := 22) C P133 d7_21 rfl rfl ?_
  refine k_iloadN (pc' := 23) C P133 d7_22 rfl rfl ?_
  refine k_callT (pc' := 26) (cells' := 2) (slots' := 10) (W := 0) C P133 (C.w 71 rfl) (C.w 72 rfl) (C.w 73 rfl) (C.w 41 rfl) (by decide) (rmTB3 l Z a0 hw _ n0 P133.size c0 c1 c2 ca kc f133_ca f133_S__assertionsDisabled f133_S_HI_BYTE_SHIFT f133_S_LO_BYTE_SHIFT) [(.ref ca), (.int (0 : Int32)), (.int (3 : Int32))] [] rfl (lenOf pd_4 rfl) rfl (Nat.le_of_eq rfl) d7_23 rfl (by decide) (by decide) rfl rfl (by decide) (by decide) all0 rfl ?_
  intro T134 h134 v134 P134 K134 Q134
  obtain ⟨y, ky, rfl, V134_⟩ := Q134
  have f134_ca := f133_ca.keep K134 nin0
  have f134_S__assertionsDisabled := k_staKeep f133_S__assertionsDisabled K134 k_ns0
  have f134_S_HI_BYTE_SHIFT := k_staKeep f133_S_HI_BYTE_SHIFT K134 k_ns0
  have f134_S_LO_BYTE_SHIFT := k_staKeep f133_S_LO_BYTE_SHIFT K134 k_ns0
  show KGo p e below _ T134 m 26 #[.val (.ref ca), .val (.int (0 : Int32)), .val (.int (3 : Int32)), .val (.ref b132), .val (.int (2 : Int32)), .unset] [(.ref y)]
  refine k_astore (l' := #[.val (.ref ca), .val (.int (0 : Int32)), .val (.int (3 : Int32)), .val (.ref b132), .val (.int (2 : Int32)), .val (.ref y)]) (pc' := 28) C P134 d7_26 rfl rfl rfl ?_
  refine k_aload (pc' := 30) C P134 d7_28 rfl rfl rfl ?_
  refine k_iload (pc' := 32) C P134 d7_30 rfl rfl ?_
  refine k_callT (pc' := 35) (cells' := 2) (slots' := 10) (W := 0) C P134 (C.w 87 rfl) (C.w 88 rfl) (C.w 89 rfl) (C.w 41 rfl) (by decide) (rmGC2 l Z a0 hw _ n0 P134.size y ky 6 (by decide) (fun j => if j = 4 then (own_lo c2) else if j = 5 then (own_hi c2) else if j = 2 then (own_lo c1) else if j = 3 then (own_hi c1) else if j = 0 then (own_lo c0) else if j = 1 then (own_hi c0) else (0 : Int32)) c2 hx rfl rfl f134_S__assertionsDisabled f134_S_HI_BYTE_SHIFT f134_S_LO_BYTE_SHIFT V134_) [(.ref y), (.int (2 : Int32))] [] rfl (lenOf pd_7 rfl) rfl (Nat.le_of_eq rfl) d7_32 rfl (by decide) (by decide) rfl rfl (by decide) (by decide) all0 rfl ?_
  intro T135 h135 v135 P135 K135 Q135
  obtain ⟨e135, g135⟩ := Q135
  subst g135
  subst e135
  show KGo p e below _ T135 m 35 #[.val (.ref ca), .val (.int (0 : Int32)), .val (.int (3 : Int32)), .val (.ref b132), .val (.int (2 : Int32)), .val (.ref y)] [(.int c2)]
  refine k_sipush (z := (255 : Int32)) (pc' := 38) C P135 d7_35 rfl rfl ?_
  refine k_icY (pc' := 54) C P135 d7_38 hi_ (by decide) (by decide) ?_
  refine k_aload (pc' := 56) C P135 d7_54 rfl rfl rfl ?_
  exact k_retA C P135 d7_56 rfl rfl (by decide) (by decide) ⟨_, _, rfl, V134_⟩
theorem ef_rmUI_32 (m : MethodId) (x0 : Addr) (x1 : Addr) (x2 : Int32) (x3 : Int32) : entryFrame m #[(.ref x0), (.ref x1), (.int x2), (.int x3), .null] 6 = mkF m 0 #[.val (.ref x0), .val (.ref x1), .val (.int x2), .val (.int x3), .val .null, .unset] [] := by first | (simp [entryFrame, mkF, argsToLocals, Value.category]; done) | rfl
set_option maxRecDepth 65536 in
set_option maxHeartbeats 40000000 in
theorem rmUI_32 (l : Launch) (Z : State) (a0 : Array Value) (hw : ∀ d ∈ tables_1, d.before a0 Z = true) (h0 : Heap) (n0 : Nat) (Z0 : n0 ≤ h0.size) (c0 c1 c2 : Int32) (hx : own_ch c2) (hc0_ : ¬ 255 < c0) (hc1_ : ¬ 255 < c1) (hi_ : 255 < c2) (ca : Addr) (kc : ClassId) (VC : KVA Z h0 ca kc .char 3 (fun j => Value.int (if j = 0 then c0 else if j = 1 then c1 else c2))) (a : Addr) (ge_a : n0 ≤ a) (F : KOb Z h0 a "java/lang/String" layS [.int 0, .null]) (cs : Int32) (hcs : ¬ cs = 0) (SC : Sta Z h0 "java/lang/String" "COMPACT_STRINGS" "Z" (.int cs)) (SA : Sta Z h0 "java/lang/StringUTF16" "$assertionsDisabled" "Z" (.int 1)) (SH : Sta Z h0 "java/lang/StringUTF16" "HI_BYTE_SHIFT" "I" (.int 0)) (SL : Sta Z h0 "java/lang/StringUTF16" "LO_BYTE_SHIFT" "I" (.int 8)) :
    KCt false l (⟨"java/lang/String", "<init>", "([CIILjava/lang/Void;)V"⟩ : MethodName) jdk_42_method_149_code 6 none ({ frames := 5, cells := 2, slots := 12, locals := 110 } : Room) Z n0 h0 #[(.ref a), (.ref ca), (.int (0 : Int32)), (.int (3 : Int32)), .null] [a] (fun v h => v = none ∧ ∃ (b : Addr) (kb : ClassId), KOb Z h a "java/lang/String" layS [.int 1, .ref b] ∧ KVA Z h b kb .byte 6 (fun j => .int (if j = 4 then (own_lo c2) else if j = 5 then (own_hi c2) else if j = 2 then (own_lo c1) else if j = 3 then (own_hi c1) else if j = 0 then (own_lo c0) else if j = 1 then (own_hi c0) else (0 : Int32)))) := by
  refine k_enter (tbl := tables_1) (a0 := a0) (Ls := #[.val (.ref a), .val (.ref ca), .val (.int (0 : Int32)), .val (.int (3 : Int32)), .val .null, .unset]) (plainFor_of_name pn_2) hw Z0 (fun m => ef_rmUI_32 m a ca (0 : Int32) (3 : Int32)) ?_
  intro p e s m below meth c T C P
  have sz_a : a ∈ [a] ∨ h0.size ≤ a := Or.inl (by simp)
  refine k_aloadN (pc' := 1) C P d2_0 rfl rfl rfl ?_
  refine k_initObj (pc' := 4) (W := 0) C P (C.w 13 rfl) (C.w 14 rfl) (C.w 15 rfl) d2_1 rfl (by decide) (by decide) (by decide) rfl ?_
  intro T136 P136
  refine k_iloadN (pc' := 5) C P136 d2_4 rfl rfl ?_
  refine k_ifY (pc' := 27) C P136 d2_5 (show ¬ (3 : Int32) = (0 : Int32) by decide) (by decide) (by decide) ?_
  refine k_gets (pc' := 30) C P136 (C.w 38 rfl) Via.refl SC d2_27 rfl ?_
  intro T137 P137
  refine k_ifN (pc' := 33) C P137 d2_30 hcs rfl ?_
  refine k_aloadN (pc' := 34) C P137 d2_33 rfl rfl rfl ?_
  refine k_iloadN (pc' := 35) C P137 d2_34 rfl rfl ?_
  refine k_iloadN (pc' := 36) C P137 d2_35 rfl rfl ?_
  refine k_callT (pc' := 39) (cells' := 2) (slots' := 12) (W := 0) C P137 (C.w 39 rfl) (C.w 40 rfl) (C.w 42 rfl) (C.w 41 rfl) (by decide) (rmU3_32 l Z a0 hw _ n0 P137.size c0 c1 c2 hx hc0_ hc1_ hi_ ca kc VC SA SH SL) [(.ref ca), (.int (0 : Int32)), (.int (3 : Int32))] [] rfl (lenOf pd_4 rfl) rfl (Nat.le_of_eq rfl) d2_36 rfl (by decide) (by decide) rfl rfl (by decide) (by decide) all0 rfl ?_
  intro T138 h138 v138 P138 K138 Q138
  obtain ⟨b, kb, rfl, V138_⟩ := Q138
  have f138_a := F.keep K138 nin0
  have f138_ca := VC.keep K138 nin0
  have f138_S_COMPACT_STRINGS := k_staKeep SC K138 k_ns0
  have f138_S__assertionsDisabled := k_staKeep SA K138 k_ns0
  have f138_S_HI_BYTE_SHIFT := k_staKeep SH K138 k_ns0
  have f138_S_LO_BYTE_SHIFT := k_staKeep SL K138 k_ns0
  show KGo p e below _ T138 m 39 #[.val (.ref a), .val (.ref ca), .val (.int (0 : Int32)), .val (.int (3 : Int32)), .val .null, .unset] [(.ref b)]
  refine k_astore (l' := #[.val (.ref a), .val (.ref ca), .val (.int (0 : Int32)), .val (.int (3 : Int32)), .val .null, .val (.ref b)]) (pc' := 41) C P138 d2_39 rfl rfl rfl ?_
  refine k_aloadN (pc' := 42) C P138 d2_41 rfl rfl rfl ?_
  refine k_aload (pc' := 44) C P138 d2_42 rfl rfl rfl ?_
  refine k_iloadN (pc' := 45) C P138 d2_44 rfl rfl ?_
  refine k_callT (pc' := 48) (cells' := 2) (slots' := 12) (W := 1) C P138 (C.w 46 rfl) (C.w 47 rfl) (C.w 48 rfl) (C.w 41 rfl) (by decide) (rmCU_3 l Z a0 hw _ n0 P138.size b kb _ V138_) [(.ref b), (.int (3 : Int32))] [(.ref a)] rfl (lenOf pd_5 rfl) rfl (Nat.le_of_eq rfl) d2_45 rfl (by decide) (by decide) rfl rfl (by decide) (by decide) all0 rfl ?_
  intro T139 h139 v139 P139 K139 Q139
  obtain ⟨e139, g139⟩ := Q139
  subst g139
  subst e139
  show KGo p e below _ T139 m 48 #[.val (.ref a), .val (.ref ca), .val (.int (0 : Int32)), .val (.int (3 : Int32)), .val .null, .val (.ref b)] [(.int (1 : Int32)), (.ref a)]
  refine k_putf (pc' := 51) (ty := .byte) (v' := (.int (1 : Int32))) C P139 (C.w 23 rfl) Via.refl f138_a 0 rfl (Or.inr ⟨(C.w 19 rfl), rfl, rfl⟩) (C.w 4 rfl) (by decide) rfl rfl d2_48 ge_a sz_a rfl ?_
  intro T140 h140 P140 W140
  have f140_a : KOb Z h140 a "java/lang/String" layS [(.int (1 : Int32)), .null] := f138_a.put (lokS C.hw) 0 rfl W140 rfl
  have f140_ca := f138_ca.other W140 (f138_ca.ne_ob f138_a.exa (C.w 4 rfl))
  have f140_S_COMPACT_STRINGS := Sta.wr W140 f138_S_COMPACT_STRINGS
  have f140_S__assertionsDisabled := Sta.wr W140 f138_S__assertionsDisabled
  have f140_S_HI_BYTE_SHIFT := Sta.wr W140 f138_S_HI_BYTE_SHIFT
  have f140_S_LO_BYTE_SHIFT := Sta.wr W140 f138_S_LO_BYTE_SHIFT
  have f140_b := V138_.other W140 (V138_.ne_ob f138_a.exa (C.w 4 rfl))
  refine k_aloadN (pc' := 52) C P140 d2_51 rfl rfl rfl ?_
  refine k_aload (pc' := 54) C P140 d2_52 rfl rfl rfl ?_
  refine k_putf (pc' := 57) (ty := (.array .byte)) (v' := (.ref b)) C P140 (C.w 22 rfl) Via.refl f140_a 1 rfl (Or.inr ⟨(C.w 18 rfl), rfl, rfl⟩) (C.w 4 rfl) (by decide) rfl rfl d2_54 ge_a sz_a rfl ?_
  intro T141 h141 P141 W141
  have f141_a : KOb Z h141 a "java/lang/String" layS [(.int (1 : Int32)), (.ref b)] := f140_a.put (lokS C.hw) 1 rfl W141 rfl
  have f141_ca := f140_ca.other W141 (f140_ca.ne_ob f140_a.exa (C.w 4 rfl))
  have f141_S_COMPACT_STRINGS := Sta.wr W141 f140_S_COMPACT_STRINGS
  have f141_S__assertionsDisabled := Sta.wr W141 f140_S__assertionsDisabled
  have f141_S_HI_BYTE_SHIFT := Sta.wr W141 f140_S_HI_BYTE_SHIFT
  have f141_S_LO_BYTE_SHIFT := Sta.wr W141 f140_S_LO_BYTE_SHIFT
  have f141_b := f140_b.other W141 (f140_b.ne_ob f140_a.exa (C.w 4 rfl))
  exact k_retV C P141 d2_57 (by decide) (by decide) ⟨rfl, b, kb, f141_a, f141_b⟩
theorem ef_rmUN_32 (m : MethodId) (x0 : Addr) (x1 : Addr) : entryFrame m #[(.ref x0), (.ref x1)] 2 = mkF m 0 #[.val (.ref x0), .val (.ref x1)] [] := by first | (simp [entryFrame, mkF, argsToLocals, Value.category]; done) | rfl
set_option maxRecDepth 65536 in
set_option maxHeartbeats 40000000 in
theorem rmUN_32 (l : Launch) (Z : State) (a0 : Array Value) (hw : ∀ d ∈ tables_1, d.before a0 Z = true) (h0 : Heap) (n0 : Nat) (Z0 : n0 ≤ h0.size) (c0 c1 c2 : Int32) (hx : own_ch c2) (hc0_ : ¬ 255 < c0) (hc1_ : ¬ 255 < c1) (hi_ : 255 < c2) (ca : Addr) (kc : ClassId) (VC : KVA Z h0 ca kc .char 3 (fun j => Value.int (if j = 0 then c0 else if j = 1 then c1 else c2))) (a : Addr) (ge_a : n0 ≤ a) (F : KOb Z h0 a "java/lang/String" layS [.int 0, .null]) (cs : Int32) (hcs : ¬ cs = 0) (SC : Sta Z h0 "java/lang/String" "COMPACT_STRINGS" "Z" (.int cs)) (SA : Sta Z h0 "java/lang/StringUTF16" "$assertionsDisabled" "Z" (.int 1)) (SH : Sta Z h0 "java/lang/StringUTF16" "HI_BYTE_SHIFT" "I" (.int 0)) (SL : Sta Z h0 "java/lang/StringUTF16" "LO_BYTE_SHIFT" "I" (.int 8)) :
    KCt false l (⟨"java/lang/String", "<init>", "([C)V"⟩ : MethodName) jdk_42_method_3_code 2 none ({ frames := 6, cells := 2, slots := 12, locals := 140 } : Room) Z n0 h0 #[(.ref a), (.ref ca)] [a] (fun v h => v = none ∧ ∃ (b : Addr) (kb : ClassId), KOb Z h a "java/lang/String" layS [.int 1, .ref b] ∧ KVA Z h b kb .byte 6 (fun j => .int (if j = 4 then (own_lo c2) else if j = 5 then (own_hi c2) else if j = 2 then (own_lo c1) else if j = 3 then (own_hi c1) else if j = 0 then (own_lo c0) else if j = 1 then (own_hi c0) else (0 : Int32)))) := by
  refine k_enter (tbl := tables_1) (a0 := a0) (Ls := #[.val (.ref a), .val (.ref ca)]) (plainFor_of_name pn_1) hw Z0 (fun m => ef_rmUN_32 m a ca) ?_
  intro p e s m below meth c T C P
  have sz_a : a ∈ [a] ∨ h0.size ≤ a := Or.inl (by simp)
  refine k_aloadN (pc' := 1) C P d1_0 rfl rfl rfl ?_
  refine k_aloadN (pc' := 2) C P d1_1 rfl rfl rfl ?_
  refine k_iconst (z := (0 : Int32)) (pc' := 3) C P d1_2 rfl rfl ?_
  refine k_aloadN (pc' := 4) C P d1_3 rfl rfl rfl ?_
  refine k_arrlen (z := (3 : Int32)) (pc' := 5) C P VC d1_4 rfl rfl ?_
  refine k_aconstNull (pc' := 6) C P d1_5 rfl ?_
  refine k_callN (pc' := 9) (cells' := 2) (slots' := 12) (W := 0) C P rfl (C.w 9 rfl) (C.w 10 rfl) (C.w 12 rfl) (C.w 5 rfl) (by decide) (rmUI_32 l Z a0 hw _ n0 P.size c0 c1 c2 hx hc0_ hc1_ hi_ ca kc VC a ge_a F cs hcs SC SA SH SL) a [(.ref ca), (.int (0 : Int32)), (.int (3 : Int32)), .null] [] rfl (lenOf pd_6 rfl) rfl (Nat.le_of_eq rfl) d1_6 rfl (by decide) (by decide) rfl rfl (by decide) (by decide) (allS sz_a all0) rfl ?_
  intro T142 h142 v142 P142 K142 Q142
  obtain ⟨rfl, b, kb, F142_, V142_⟩ := Q142
  have f142_ca := VC.keep K142 (ninS (VC.ne_ob F.exa (C.w 4 rfl)) nin0)
  have f142_S_COMPACT_STRINGS := k_staKeep SC K142 (k_nsS F.ns k_ns0)
  have f142_S__assertionsDisabled := k_staKeep SA K142 (k_nsS F.ns k_ns0)
  have f142_S_HI_BYTE_SHIFT := k_staKeep SH K142 (k_nsS F.ns k_ns0)
  have f142_S_LO_BYTE_SHIFT := k_staKeep SL K142 (k_nsS F.ns k_ns0)
  show KGo p e below _ T142 m 9 #[.val (.ref a), .val (.ref ca)] []
  exact k_retV C P142 d1_9 (by decide) (by decide) ⟨rfl, b, kb, F142_, V142_⟩
theorem ef_rmNI_0 (m : MethodId) (x0 : Addr) (x1 : Addr) (x2 : Int32) (x3 : Int32) : entryFrame m #[(.ref x0), (.ref x1), (.int x2), (.int x3), .null] 6 = mkF m 0 #[.val (.ref x0), .val (.ref x1), .val (.int x2), .val (.int x3), .val .null, .unset] [] := by first | (simp [entryFrame, mkF, argsToLocals, Value.category]; done) | rfl
set_option maxRecDepth 65536 in
set_option maxHeartbeats 40000000 in
theorem rmNI_0 (l : Launch) (Z : State) (a0 : Array Value) (hw : ∀ d ∈ tables_1, d.before a0 Z = true) (h0 : Heap) (n0 : Nat) (Z0 : n0 ≤ h0.size) (ca : Addr) (a : Addr) (ge_a : n0 ≤ a) (F : KOb Z h0 a "java/lang/String" layS [.int 0, .null]) :
    KCh consts_1 l (⟨"java/lang/String", "<init>", "([CIILjava/lang/Void;)V"⟩ : MethodName) jdk_42_method_149_code 6 none ({ frames := 1, cells := 4, slots := 8, locals := 15 } : Room) Z n0 h0 #[(.ref a), (.ref ca), (.int (0 : Int32)), (.int (0 : Int32)), .null] [a] [a] (fun v h => v = none ∧ ∃ (b : Addr) (kb : ClassId), KOb Z h a "java/lang/String" layS [.int 0, .ref b] ∧ KVA Z h b kb .byte 0 (fun _ => .int 0)) := by
  refine k_enterH (tbl := tables_1) (a0 := a0) (Ls := #[.val (.ref a), .val (.ref ca), .val (.int (0 : Int32)), .val (.int (0 : Int32)), .val .null, .unset]) (plainFor_of_name pn_2) hw Z0 (fun m => ef_rmNI_0 m a ca (0 : Int32) (0 : Int32)) ?_
  intro p e s m below meth c T C P HR SFs
  have SF_a := SFs a (by simp)
  have sz_a : a ∈ [a] ∨ h0.size ≤ a := Or.inl (by simp)
  refine k_aloadN (pc' := 1) C P d2_0 rfl rfl rfl ?_
  refine k_initObj (pc' := 4) (W := 0) C P (C.w 13 rfl) (C.w 14 rfl) (C.w 15 rfl) d2_1 rfl (by decide) (by decide) (by decide) rfl ?_
  intro T143 P143
  refine k_iloadN (pc' := 5) C P143 d2_4 rfl rfl ?_
  refine k_ifN (pc' := 8) C P143 d2_5 k_01 rfl ?_
  refine k_aloadN (pc' := 9) C P143 d2_8 rfl rfl rfl ?_
  refine k_ldcH (EL := consts_1) (text := "") (N := 0) (f := (fun j => Value.int 0)) (pc' := 11) (n := 0) (cells' := 2) (slots' := 4) C P143 (own_EW C.hw) (by simp [consts_1]) HR.1 (C.w 16 rfl) (own_sa C.hw) d2_9 (by decide) (by decide) (by decide) (fun j hj => absurd hj (by omega)) (by decide) (by decide) rfl rfl (by decide) (by decide) rfl ?_
  intro s144 T144 h144 b144 y144 k144 P144 E144 X144 Fc144 Fv144 V144 R144 N144
  have f144_HR := CHr.trans HR R144
  have f144_SF_a := CHr.safe R144 F.lt SF_a
  have f144_a := F.ext E144
  have f144_b144 : KOb Z h144 b144 "java/lang/String" layS [.int 0, .ref y144] := KOb.two X144 Fc144 Fv144
  have ne_a_b144 := (N144 a f144_SF_a).1
  have ne_a_y144 := (N144 a f144_SF_a).2
  refine k_getf (pc' := 14) C P144 (C.w 22 rfl) Via.refl f144_b144 1 rfl rfl d2_11 rfl ?_
  intro T145 P145
  refine k_putf (pc' := 17) (ty := (.array .byte)) (v' := (.ref y144)) C P145 (C.w 22 rfl) Via.refl f144_a 1 rfl (Or.inr ⟨(C.w 18 rfl), rfl, rfl⟩) (C.w 4 rfl) (by decide) rfl rfl d2_14 ge_a sz_a rfl ?_
  intro T146 h146 P146 W146
  have f146_a : KOb Z h146 a "java/lang/String" layS [(.int (0 : Int32)), (.ref y144)] := f144_a.put (lokS C.hw) 1 rfl W146 rfl
  have f146_HR := CHr.trans f144_HR (CHr.wr W146 f144_SF_a f144_HR.1)
  have f146_SF_a := Safe.wr W146 f144_SF_a f144_HR.1 f144_SF_a
  have f146_b144 := f144_b144.other W146 (Ne.symm ne_a_b144)
  have f146_y144 := V144.other W146 (Ne.symm ne_a_y144)
  refine k_aloadN (pc' := 18) C P146 d2_17 rfl rfl rfl ?_
  refine k_ldcH (EL := consts_1) (text := "") (N := 0) (f := (fun j => Value.int 0)) (pc' := 20) (n := 0) (cells' := 4) (slots' := 8) C P146 (own_EW C.hw) (by simp [consts_1]) f146_HR.1 (C.w 16 rfl) (own_sa C.hw) d2_18 (by decide) (by decide) (by decide) (fun j hj => absurd hj (by omega)) (by decide) (by decide) rfl rfl (by decide) (by decide) rfl ?_
  intro s147 T147 h147 b147 y147 k147 P147 E147 X147 Fc147 Fv147 V147 R147 N147
  have f147_HR := CHr.trans f146_HR R147
  have f147_SF_a := CHr.safe R147 f146_a.lt f146_SF_a
  have f147_a := f146_a.ext E147
  have f147_b144 := f146_b144.ext E147
  have f147_y144 := f146_y144.ext E147
  have f147_b147 : KOb Z h147 b147 "java/lang/String" layS [.int 0, .ref y147] := KOb.two X147 Fc147 Fv147
  have ne_a_b147 := (N147 a f147_SF_a).1
  have ne_a_y147 := (N147 a f147_SF_a).2
  refine k_getf (pc' := 23) C P147 (C.w 23 rfl) Via.refl f147_b147 0 rfl rfl d2_20 rfl ?_
  intro T148 P148
  refine k_putf (pc' := 26) (ty := .byte) (v' := (.int (0 : Int32))) C P148 (C.w 23 rfl) Via.refl f147_a 0 rfl (Or.inr ⟨(C.w 19 rfl), rfl, rfl⟩) (C.w 4 rfl) (by decide) rfl rfl d2_23 ge_a sz_a rfl ?_
  intro T149 h149 P149 W149
  have f149_a : KOb Z h149 a "java/lang/String" layS [(.int (0 : Int32)), (.ref y144)] := f147_a.put (lokS C.hw) 0 rfl W149 rfl
  have f149_HR := CHr.trans f147_HR (CHr.wr W149 f147_SF_a f147_HR.1)
  have f149_SF_a := Safe.wr W149 f147_SF_a f147_HR.1 f147_SF_a
  have f149_b144 := f147_b144.other W149 (Ne.symm ne_a_b144)
  have f149_y144 := f147_y144.other W149 (Ne.symm ne_a_y144)
  have f149_b147 := f147_b147.other W149 (Ne.symm ne_a_b147)
  have f149_y147 := V147.other W149 (Ne.symm ne_a_y147)
  exact k_retHV C P149 (own_EW C.hw) f149_HR d2_26 (by decide) (by decide) ⟨rfl, y144, _, f149_a, f149_y144⟩
theorem ef_rmNew_0 (m : MethodId) (x0 : Addr) (x1 : Addr) : entryFrame m #[(.ref x0), (.ref x1)] 2 = mkF m 0 #[.val (.ref x0), .val (.ref x1)] [] := by first | (simp [entryFrame, mkF, argsToLocals, Value.category]; done) | rfl
set_option maxRecDepth 65536 in
set_option maxHeartbeats 40000000 in
theorem rmNew_0 (l : Launch) (Z : State) (a0 : Array Value) (hw : ∀ d ∈ tables_1, d.before a0 Z = true) (h0 : Heap) (n0 : Nat) (Z0 : n0 ≤ h0.size) (ca : Addr) (kc : ClassId) (fc : Nat → Value) (VC : KVA Z h0 ca kc .char 0 fc) (a : Addr) (ge_a : n0 ≤ a) (F : KOb Z h0 a "java/lang/String" layS [.int 0, .null]) :
    KCh consts_1 l (⟨"java/lang/String", "<init>", "([C)V"⟩ : MethodName) jdk_42_method_3_code 2 none ({ frames := 2, cells := 4, slots := 8, locals := 40 } : Room) Z n0 h0 #[(.ref a), (.ref ca)] [a] [a] (fun v h => v = none ∧ ∃ (b : Addr) (kb : ClassId), KOb Z h a "java/lang/String" layS [.int 0, .ref b] ∧ KVA Z h b kb .byte 0 (fun _ => .int 0)) := by
  refine k_enterH (tbl := tables_1) (a0 := a0) (Ls := #[.val (.ref a), .val (.ref ca)]) (plainFor_of_name pn_1) hw Z0 (fun m => ef_rmNew_0 m a ca) ?_
  intro p e s m below meth c T C P HR SFs
  have SF_a := SFs a (by simp)
  have sz_a : a ∈ [a] ∨ h0.size ≤ a := Or.inl (by simp)
  refine k_aloadN (pc' := 1) C P d1_0 rfl rfl rfl ?_
  refine k_aloadN (pc' := 2) C P d1_1 rfl rfl rfl ?_
  refine k_iconst (z := (0 : Int32)) (pc' := 3) C P d1_2 rfl rfl ?_
  refine k_aloadN (pc' := 4) C P d1_3 rfl rfl rfl ?_
  refine k_arrlen (z := (0 : Int32)) (pc' := 5) C P VC d1_4 rfl rfl ?_
  refine k_aconstNull (pc' := 6) C P d1_5 rfl ?_
  refine k_callNH (pc' := 9) (cells' := 4) (slots' := 8) (W := 0) C P rfl (C.w 9 rfl) (C.w 10 rfl) (C.w 12 rfl) (C.w 5 rfl) (by decide) (rmNI_0 l Z a0 hw _ n0 P.size ca a ge_a F) (own_EW C.hw) HR.1 (List.forall_mem_cons.mpr ⟨⟨F.lt, SF_a⟩, (fun _ q => nomatch q)⟩) a [(.ref ca), (.int (0 : Int32)), (.int (0 : Int32)), .null] [] rfl (lenOf pd_6 rfl) rfl (Nat.le_of_eq rfl) d1_6 rfl (by decide) (by decide) rfl rfl (by decide) (by decide) (allS sz_a all0) rfl ?_
  intro s150 T150 h150 v150 P150 K150 R150 Q150
  obtain ⟨rfl, b, kb, F150_, V150_⟩ := Q150
  have f150_HR := CHr.trans HR R150
  have f150_SF_a := CHr.safe R150 F.lt SF_a
  have f150_ca := VC.keep K150 (ninS (VC.ne_ob F.exa (C.w 4 rfl)) nin0)
  show KGo p e below _ T150 m 9 #[.val (.ref a), .val (.ref ca)] []
  exact k_retHV C P150 (own_EW C.hw) f150_HR d1_9 (by decide) (by decide) ⟨rfl, b, kb, F150_, V150_⟩
theorem pn_14 : plainName "jdk/internal/util/Preconditions" = true := by first | (simp [plainName, overriddenIn]; done) | decide +kernel
theorem ef_rmCI (m : MethodId) (x0 : Int32) (x1 : Int32) (x2 : Value) (q2 : x2.isRef = true) : entryFrame m #[(.int x0), (.int x1), x2] 3 = mkF m 0 #[.val (.int x0), .val (.int x1), .val x2] [] := by
  rcases ref_cases q2 with rfl | ⟨_, rfl⟩ <;>
  first | (simp [entryFrame, mkF, argsToLocals, Value.category]; done) | rfl
set_option maxRecDepth 65536 in
set_option maxHeartbeats 40000000 in
theorem rmCI (l : Launch) (Z : State) (a0 : Array Value) (hw : ∀ d ∈ tables_1, d.before a0 Z = true) (h0 : Heap) (n0 : Nat) (Z0 : n0 ≤ h0.size) (x y : Int32) (fv : Value) (hfv : fv.isRef = true) (h1 : ¬ x < 0) (h2 : x < y) :
    KCt false l (⟨"jdk/internal/util/Preconditions", "checkIndex", "(IILjava/util/function/BiFunction;)I"⟩ : MethodName) jdk_41_method_11_code 3 (some .int) ({ frames := 0, cells := 0, slots := 0, locals := 0 } : Room) Z n0 h0 #[(.int x), (.int y), fv] [] (fun v h => v = some (.int x) ∧ h0 = h) := by
  refine k_enter (tbl := tables_1) (a0 := a0) (Ls := #[.val (.int x), .val (.int y), .val fv]) (plainFor_of_name pn_14) hw Z0 (fun m => ef_rmCI m x y fv hfv) ?_
  intro p e s m below meth c T C P
  refine k_iloadN (pc' := 1) C P d14_0 rfl rfl ?_
  refine k_ifN (pc' := 4) C P d14_1 h1 rfl ?_
  refine k_iloadN (pc' := 5) C P d14_4 rfl rfl ?_
  refine k_iloadN (pc' := 6) C P d14_5 rfl rfl ?_
  refine k_icY (pc' := 16) C P d14_6 h2 (by decide) (by decide) ?_
  refine k_iloadN (pc' := 17) C P d14_16 rfl rfl ?_
  exact k_retI C P d14_17 (by decide) (by decide) ⟨rfl, rfl⟩
theorem pn_13 : plainName "java/lang/String" = true := by first | (simp [plainName, overriddenIn]; done) | decide +kernel
theorem ef_rmSCI (m : MethodId) (x0 : Int32) (x1 : Int32) : entryFrame m #[(.int x0), (.int x1)] 2 = mkF m 0 #[.val (.int x0), .val (.int x1)] [] := by first | (simp [entryFrame, mkF, argsToLocals, Value.category]; done) | rfl
set_option maxRecDepth 65536 in
set_option maxHeartbeats 40000000 in
theorem rmSCI (l : Launch) (Z : State) (a0 : Array Value) (hw : ∀ d ∈ tables_1, d.before a0 Z = true) (h0 : Heap) (n0 : Nat) (Z0 : n0 ≤ h0.size) (x y : Int32) (h1 : ¬ x < 0) (h2 : x < y) (fv : Value) (hfv : fv.isRef = true) (SFm : Sta Z h0 "jdk/internal/util/Preconditions" "SIOOBE_FORMATTER" "Ljava/util/function/BiFunction;" fv) :
    KCt false l (⟨"java/lang/String", "checkIndex", "(II)V"⟩ : MethodName) jdk_42_method_155_code 2 none ({ frames := 1, cells := 0, slots := 0, locals := 16 } : Room) Z n0 h0 #[(.int x), (.int y)] [] (fun v h => v = none ∧ h0 = h) := by
  refine k_enter (tbl := tables_1) (a0 := a0) (Ls := #[.val (.int x), .val (.int y)]) (plainFor_of_name pn_13) hw Z0 (fun m => ef_rmSCI m x y) ?_
  intro p e s m below meth c T C P
  refine k_iloadN (pc' := 1) C P d13_0 rfl rfl ?_
  refine k_iloadN (pc' := 2) C P d13_1 rfl rfl ?_
  refine k_gets (pc' := 5) C P (C.w 66 rfl) Via.refl SFm d13_2 rfl ?_
  intro T151 P151
  refine k_callT (pc' := 8) (cells' := 0) (slots' := 0) (W := 0) C P151 (C.w 68 rfl) (C.w 69 rfl) (C.w 70 rfl) (C.w 67 rfl) (by decide) (rmCI l Z a0 hw _ n0 P151.size x y fv hfv h1 h2) [(.int x), (.int y), fv] [] rfl (lenOf pd_8 rfl) rfl (Nat.le_of_eq rfl) d13_5 rfl (by decide) (by decide) rfl rfl (by decide) (by decide) all0 rfl ?_
  intro T152 h152 v152 P152 K152 Q152
  obtain ⟨e152, g152⟩ := Q152
  subst g152
  subst e152
  show KGo p e below _ T152 m 8 #[.val (.int x), .val (.int y)] [(.int x)]
  refine k_pop (pc' := 9) C P152 d13_8 rfl rfl ?_
  exact k_retV C P152 d13_9 (by decide) (by decide) ⟨rfl, rfl⟩
theorem pn_6 : plainName "java/lang/String" = true := by first | (simp [plainName, overriddenIn]; done) | decide +kernel
theorem ef_rmCd (m : MethodId) (x0 : Addr) : entryFrame m #[(.ref x0)] 1 = mkF m 0 #[.val (.ref x0)] [] := by first | (simp [entryFrame, mkF, argsToLocals, Value.category]; done) | rfl
set_option maxRecDepth 65536 in
set_option maxHeartbeats 40000000 in
theorem rmCd (l : Launch) (Z : State) (a0 : Array Value) (hw : ∀ d ∈ tables_1, d.before a0 Z = true) (h0 : Heap) (n0 : Nat) (Z0 : n0 ≤ h0.size) (a b : Addr) (cd : Int32) (F : KOb Z h0 a "java/lang/String" layS [.int cd, .ref b]) (hcd : nar .byte cd = cd) (cs : Int32) (hcs : ¬ cs = 0) (SC : Sta Z h0 "java/lang/String" "COMPACT_STRINGS" "Z" (.int cs)) :
    KCt false l (⟨"java/lang/String", "coder", "()B"⟩ : MethodName) jdk_42_method_152_code 1 (some .byte) ({ frames := 0, cells := 0, slots := 0, locals := 0 } : Room) Z n0 h0 #[(.ref a)] [] (fun v h => v = some (.int cd) ∧ h0 = h) := by
  refine k_enter (tbl := tables_1) (a0 := a0) (Ls := #[.val (.ref a)]) (plainFor_of_name pn_6) hw Z0 (fun m => ef_rmCd m a) ?_
  intro p e s m below meth c T C P
  refine k_gets (pc' := 3) C P (C.w 38 rfl) Via.refl SC d6_0 rfl ?_
  intro T153 P153
  refine k_ifN (pc' := 6) C P153 d6_3 hcs rfl ?_
  refine k_aloadN (pc' := 7) C P153 d6_6 rfl rfl rfl ?_
  refine k_getf (pc' := 10) C P153 (C.w 23 rfl) Via.refl F 0 rfl rfl d6_7 rfl ?_
  intro T154 P154
  refine k_goto (pc' := 14) C P154 d6_10 (by decide) (by decide) ?_
  exact k_retZ (z' := cd) C P154 (by simp) d6_14 hcd (by decide) (by decide) ⟨rfl, rfl⟩
theorem pn_11 : plainName "java/lang/String" = true := by first | (simp [plainName, overriddenIn]; done) | decide +kernel
theorem ef_rmLat0 (m : MethodId) (x0 : Addr) : entryFrame m #[(.ref x0)] 1 = mkF m 0 #[.val (.ref x0)] [] := by first | (simp [entryFrame, mkF, argsToLocals, Value.category]; done) | rfl
set_option maxRecDepth 65536 in
set_option maxHeartbeats 40000000 in
theorem rmLat0 (l : Launch) (Z : State) (a0 : Array Value) (hw : ∀ d ∈ tables_1, d.before a0 Z = true) (h0 : Heap) (n0 : Nat) (Z0 : n0 ≤ h0.size) (a b : Addr) (F : KOb Z h0 a "java/lang/String" layS [.int 0, .ref b]) (cs : Int32) (hcs : ¬ cs = 0) (SC : Sta Z h0 "java/lang/String" "COMPACT_STRINGS" "Z" (.int cs)) :
    KCt false l (⟨"java/lang/String", "isLatin1", "()Z"⟩ : MethodName) jdk_42_method_154_code 1 (some .boolean) ({ frames := 0, cells := 0, slots := 0, locals := 0 } : Room) Z n0 h0 #[(.ref a)] [] (fun v h => v = some (.int 1) ∧ h0 = h) := by
  refine k_enter (tbl := tables_1) (a0 := a0) (Ls := #[.val (.ref a)]) (plainFor_of_name pn_11) hw Z0 (fun m => ef_rmLat0 m a) ?_
  intro p e s m below meth c T C P
  refine k_gets (pc' := 3) C P (C.w 38 rfl) Via.refl SC d11_0 rfl ?_
  intro T155 P155
  refine k_ifN (pc' := 6) C P155 d11_3 hcs rfl ?_
  refine k_aloadN (pc' := 7) C P155 d11_6 rfl rfl rfl ?_
  refine k_getf (pc' := 10) C P155 (C.w 23 rfl) Via.refl F 0 rfl rfl d11_7 rfl ?_
  intro T156 P156
  refine k_ifN (pc' := 13) C P156 d11_10 k_01 rfl ?_
  refine k_iconst (z := (1 : Int32)) (pc' := 14) C P156 d11_13 rfl rfl ?_
  refine k_goto (pc' := 18) C P156 d11_14 (by decide) (by decide) ?_
  exact k_retZ (z' := (1 : Int32)) C P156 (by simp) d11_18 rfl (by decide) (by decide) ⟨rfl, rfl⟩
theorem ef_rmLat1 (m : MethodId) (x0 : Addr) : entryFrame m #[(.ref x0)] 1 = mkF m 0 #[.val (.ref x0)] [] := by first | (simp [entryFrame, mkF, argsToLocals, Value.category]; done) | rfl
set_option maxRecDepth 65536 in
set_option maxHeartbeats 40000000 in
theorem rmLat1 (l : Launch) (Z : State) (a0 : Array Value) (hw : ∀ d ∈ tables_1, d.before a0 Z = true) (h0 : Heap) (n0 : Nat) (Z0 : n0 ≤ h0.size) (a b : Addr) (F : KOb Z h0 a "java/lang/String" layS [.int 1, .ref b]) (cs : Int32) (hcs : ¬ cs = 0) (SC : Sta Z h0 "java/lang/String" "COMPACT_STRINGS" "Z" (.int cs)) :
    KCt false l (⟨"java/lang/String", "isLatin1", "()Z"⟩ : MethodName) jdk_42_method_154_code 1 (some .boolean) ({ frames := 0, cells := 0, slots := 0, locals := 0 } : Room) Z n0 h0 #[(.ref a)] [] (fun v h => v = some (.int 0) ∧ h0 = h) := by
  refine k_enter (tbl := tables_1) (a0 := a0) (Ls := #[.val (.ref a)]) (plainFor_of_name pn_11) hw Z0 (fun m => ef_rmLat1 m a) ?_
  intro p e s m below meth c T C P
  refine k_gets (pc' := 3) C P (C.w 38 rfl) Via.refl SC d11_0 rfl ?_
  intro T157 P157
  refine k_ifN (pc' := 6) C P157 d11_3 hcs rfl ?_
  refine k_aloadN (pc' := 7) C P157 d11_6 rfl rfl rfl ?_
  refine k_getf (pc' := 10) C P157 (C.w 23 rfl) Via.refl F 0 rfl rfl d11_7 rfl ?_
  intro T158 P158
  refine k_ifY (pc' := 17) C P158 d11_10 k_10 (by decide) (by decide) ?_
  refine k_iconst (z := (0 : Int32)) (pc' := 18) C P158 d11_17 rfl rfl ?_
  exact k_retZ (z' := (0 : Int32)) C P158 (by simp) d11_18 rfl (by decide) (by decide) ⟨rfl, rfl⟩
theorem pn_12 : plainName "java/lang/StringLatin1" = true := by first | (simp [plainName, overriddenIn]; done) | decide +kernel
theorem ef_rmLC (m : MethodId) (x0 : Addr) (x1 : Int32) : entryFrame m #[(.ref x0), (.int x1)] 2 = mkF m 0 #[.val (.ref x0), .val (.int x1)] [] := by first | (simp [entryFrame, mkF, argsToLocals, Value.category]; done) | rfl
set_option maxRecDepth 65536 in
set_option maxHeartbeats 40000000 in
theorem rmLC (l : Launch) (Z : State) (a0 : Array Value) (hw : ∀ d ∈ tables_1, d.before a0 Z = true) (h0 : Heap) (n0 : Nat) (Z0 : n0 ≤ h0.size) (b : Addr) (kb : ClassId) (N i : Nat) (zN zi x : Int32) (hzN : zN.toInt = (N : Int)) (hzi : zi.toInt = (i : Int)) (hi : i < N) (f : Nat → Value) (V : KVA Z h0 b kb .byte N f) (ev : f i = .int x.toInt8.toInt32) (hx : own_ch x) (hl : ¬ 255 < x) (fv : Value) (hfv : fv.isRef = true) (SFm : Sta Z h0 "jdk/internal/util/Preconditions" "SIOOBE_FORMATTER" "Ljava/util/function/BiFunction;" fv) :
    KCt false l (⟨"java/lang/StringLatin1", "charAt", "([BI)C"⟩ : MethodName) jdk_43_method_2_code 2 (some .char) ({ frames := 2, cells := 0, slots := 0, locals := 32 } : Room) Z n0 h0 #[(.ref b), (.int zi)] [] (fun v h => v = some (.int x) ∧ h0 = h) := by
  refine k_enter (tbl := tables_1) (a0 := a0) (Ls := #[.val (.ref b), .val (.int zi)]) (plainFor_of_name pn_12) hw Z0 (fun m => ef_rmLC m b zi) ?_
  intro p e s m below meth c T C P
  refine k_iloadN (pc' := 1) C P d12_0 rfl rfl ?_
  refine k_aloadN (pc' := 2) C P d12_1 rfl rfl rfl ?_
  refine k_arrlen (z := zN) (pc' := 3) C P V d12_2 hzN rfl ?_
  refine k_callT (pc' := 6) (cells' := 0) (slots' := 0) (W := 0) C P (C.w 63 rfl) (C.w 64 rfl) (C.w 65 rfl) (C.w 5 rfl) (by decide) (rmSCI l Z a0 hw _ n0 P.size zi zN (own_n0 hzi) ((OwnNum.lt_iff hzi hzN).mpr hi) fv hfv SFm) [(.int zi), (.int zN)] [] rfl (lenOf pd_9 rfl) rfl (Nat.le_of_eq rfl) d12_3 rfl (by decide) (by decide) rfl rfl (by decide) (by decide) all0 rfl ?_
  intro T159 h159 v159 P159 K159 Q159
  obtain ⟨e159, g159⟩ := Q159
  subst g159
  subst e159
  show KGo p e below _ T159 m 6 #[.val (.ref b), .val (.int zi)] []
  refine k_aloadN (pc' := 7) C P159 d12_6 rfl rfl rfl ?_
  refine k_iloadN (pc' := 8) C P159 d12_7 rfl rfl ?_
  refine k_baload (J := i) (v := (.int x.toInt8.toInt32)) (pc' := 9) C P159 V d12_8 hzi hi ev rfl ?_
  refine k_sipush (z := (255 : Int32)) (pc' := 12) C P159 d12_9 rfl rfl ?_
  refine k_iand (pc' := 13) C P159 d12_12 rfl ?_
  refine k_i2c (pc' := 14) C P159 d12_13 rfl ?_
  exact k_retZ (z' := x) C P159 (by simp) d12_14 (own_lat hx hl) (by decide) (by decide) ⟨rfl, rfl⟩
theorem pn_22 : plainName "java/lang/StringUTF16" = true := by first | (simp [plainName, overriddenIn]; done) | decide +kernel
theorem ef_rmUL2 (m : MethodId) (x0 : Addr) : entryFrame m #[(.ref x0)] 1 = mkF m 0 #[.val (.ref x0)] [] := by first | (simp [entryFrame, mkF, argsToLocals, Value.category]; done) | rfl
set_option maxRecDepth 65536 in
set_option maxHeartbeats 40000000 in
theorem rmUL2 (l : Launch) (Z : State) (a0 : Array Value) (hw : ∀ d ∈ tables_1, d.before a0 Z = true) (h0 : Heap) (n0 : Nat) (Z0 : n0 ≤ h0.size) (b : Addr) (kb : ClassId) (f : Nat → Value) (V : KVA Z h0 b kb .byte 4 f) :
    KCt false l (⟨"java/lang/StringUTF16", "length", "([B)I"⟩ : MethodName) jdk_52_method_6_code 1 (some .int) ({ frames := 0, cells := 0, slots := 0, locals := 0 } : Room) Z n0 h0 #[(.ref b)] [] (fun v h => v = some (.int 2) ∧ h0 = h) := by
  refine k_enter (tbl := tables_1) (a0 := a0) (Ls := #[.val (.ref b)]) (plainFor_of_name pn_22) hw Z0 (fun m => ef_rmUL2 m b) ?_
  intro p e s m below meth c T C P
  refine k_aloadN (pc' := 1) C P d22_0 rfl rfl rfl ?_
  refine k_arrlen (z := (4 : Int32)) (pc' := 2) C P V d22_1 rfl rfl ?_
  refine k_iconst (z := (1 : Int32)) (pc' := 3) C P d22_2 rfl rfl ?_
  refine k_ishr (pc' := 4) C P d22_3 rfl ?_
  exact k_retI C P d22_4 (by decide) (by decide) ⟨by rw [own_shr_2], rfl⟩
theorem pn_21 : plainName "java/lang/StringUTF16" = true := by first | (simp [plainName, overriddenIn]; done) | decide +kernel
theorem ef_rmUX20 (m : MethodId) (x0 : Int32) (x1 : Addr) : entryFrame m #[(.int x0), (.ref x1)] 2 = mkF m 0 #[.val (.int x0), .val (.ref x1)] [] := by first | (simp [entryFrame, mkF, argsToLocals, Value.category]; done) | rfl
set_option maxRecDepth 65536 in
set_option maxHeartbeats 40000000 in
theorem rmUX20 (l : Launch) (Z : State) (a0 : Array Value) (hw : ∀ d ∈ tables_1, d.before a0 Z = true) (h0 : Heap) (n0 : Nat) (Z0 : n0 ≤ h0.size) (b : Addr) (kb : ClassId) (f : Nat → Value) (V : KVA Z h0 b kb .byte 4 f) (fv : Value) (hfv : fv.isRef = true) (SFm : Sta Z h0 "jdk/internal/util/Preconditions" "SIOOBE_FORMATTER" "Ljava/util/function/BiFunction;" fv) :
    KCt false l (⟨"java/lang/StringUTF16", "checkIndex", "(I[B)V"⟩ : MethodName) jdk_52_method_91_code 2 none ({ frames := 2, cells := 0, slots := 0, locals := 32 } : Room) Z n0 h0 #[(.int (0 : Int32)), (.ref b)] [] (fun v h => v = none ∧ h0 = h) := by
  refine k_enter (tbl := tables_1) (a0 := a0) (Ls := #[.val (.int (0 : Int32)), .val (.ref b)]) (plainFor_of_name pn_21) hw Z0 (fun m => ef_rmUX20 m (0 : Int32) b) ?_
  intro p e s m below meth c T C P
  refine k_iloadN (pc' := 1) C P d21_0 rfl rfl ?_
  refine k_aloadN (pc' := 2) C P d21_1 rfl rfl rfl ?_
  refine k_callT (pc' := 5) (cells' := 0) (slots' := 0) (W := 1) C P (C.w 96 rfl) (C.w 97 rfl) (C.w 98 rfl) (C.w 41 rfl) (by decide) (rmUL2 l Z a0 hw _ n0 P.size b kb f V) [(.ref b)] [(.int (0 : Int32))] rfl (lenOf pd_10 rfl) rfl (Nat.le_of_eq rfl) d21_2 rfl (by decide) (by decide) rfl rfl (by decide) (by decide) all0 rfl ?_
  intro T160 h160 v160 P160 K160 Q160
  obtain ⟨e160, g160⟩ := Q160
  subst g160
  subst e160
  show KGo p e below _ T160 m 5 #[.val (.int (0 : Int32)), .val (.ref b)] [(.int (2 : Int32)), (.int (0 : Int32))]
  refine k_callT (pc' := 8) (cells' := 0) (slots' := 0) (W := 0) C P160 (C.w 99 rfl) (C.w 64 rfl) (C.w 65 rfl) (C.w 5 rfl) (by decide) (rmSCI l Z a0 hw _ n0 P160.size (0 : Int32) (2 : Int32) (by decide) (by decide) fv hfv SFm) [(.int (0 : Int32)), (.int (2 : Int32))] [] rfl (lenOf pd_9 rfl) rfl (Nat.le_of_eq rfl) d21_5 rfl (by decide) (by decide) rfl rfl (by decide) (by decide) all0 rfl ?_
  intro T161 h161 v161 P161 K161 Q161
  obtain ⟨e161, g161⟩ := Q161
  subst g161
  subst e161
  show KGo p e below _ T161 m 8 #[.val (.int (0 : Int32)), .val (.ref b)] []
  exact k_retV C P161 d21_8 (by decide) (by decide) ⟨rfl, rfl⟩
theorem pn_20 : plainName "java/lang/StringUTF16" = true := by first | (simp [plainName, overriddenIn]; done) | decide +kernel
theorem ef_rmUA20 (m : MethodId) (x0 : Addr) (x1 : Int32) : entryFrame m #[(.ref x0), (.int x1)] 2 = mkF m 0 #[.val (.ref x0), .val (.int x1)] [] := by first | (simp [entryFrame, mkF, argsToLocals, Value.category]; done) | rfl
set_option maxRecDepth 65536 in
set_option maxHeartbeats 40000000 in
theorem rmUA20 (l : Launch) (Z : State) (a0 : Array Value) (hw : ∀ d ∈ tables_1, d.before a0 Z = true) (h0 : Heap) (n0 : Nat) (Z0 : n0 ≤ h0.size) (b : Addr) (kb : ClassId) (f : Nat → Int32) (V : KVA Z h0 b kb .byte 4 (fun j => .int (f j))) (x : Int32) (hx : own_ch x) (e0 : f 0 = own_lo x) (e1 : f 1 = own_hi x) (fv : Value) (hfv : fv.isRef = true) (SFm : Sta Z h0 "jdk/internal/util/Preconditions" "SIOOBE_FORMATTER" "Ljava/util/function/BiFunction;" fv) (SA : Sta Z h0 "java/lang/StringUTF16" "$assertionsDisabled" "Z" (.int 1)) (SH : Sta Z h0 "java/lang/StringUTF16" "HI_BYTE_SHIFT" "I" (.int 0)) (SL : Sta Z h0 "java/lang/StringUTF16" "LO_BYTE_SHIFT" "I" (.int 8)) :
    KCt false l (⟨"java/lang/StringUTF16", "charAt", "([BI)C"⟩ : MethodName) jdk_52_method_83_code 2 (some .char) ({ frames := 3, cells := 0, slots := 0, locals := 50 } : Room) Z n0 h0 #[(.ref b), (.int (0 : Int32))] [] (fun v h => v = some (.int x) ∧ h0 = h) := by
  refine k_enter (tbl := tables_1) (a0 := a0) (Ls := #[.val (.ref b), .val (.int (0 : Int32))]) (plainFor_of_name pn_20) hw Z0 (fun m => ef_rmUA20 m b (0 : Int32)) ?_
  intro p e s m below meth c T C P
  refine k_iloadN (pc' := 1) C P d20_0 rfl rfl ?_
  refine k_aloadN (pc' := 2) C P d20_1 rfl rfl rfl ?_
  refine k_callT (pc' := 5) (cells' := 0) (slots' := 0) (W := 0) C P (C.w 93 rfl) (C.w 94 rfl) (C.w 95 rfl) (C.w 41 rfl) (by decide) (rmUX20 l Z a0 hw _ n0 P.size b kb _ V fv hfv SFm) [(.int (0 : Int32)), (.ref b)] [] rfl (lenOf pd_11 rfl) rfl (Nat.le_of_eq rfl) d20_2 rfl (by decide) (by decide) rfl rfl (by decide) (by decide) all0 rfl ?_
  intro T162 h162 v162 P162 K162 Q162
  obtain ⟨e162, g162⟩ := Q162
  subst g162
  subst e162
  show KGo p e below _ T162 m 5 #[.val (.ref b), .val (.int (0 : Int32))] []
  refine k_aloadN (pc' := 6) C P162 d20_5 rfl rfl rfl ?_
  refine k_iloadN (pc' := 7) C P162 d20_6 rfl rfl ?_
  refine k_callT (pc' := 10) (cells' := 0) (slots' := 0) (W := 0) C P162 (C.w 87 rfl) (C.w 88 rfl) (C.w 89 rfl) (C.w 41 rfl) (by decide) (rmGC0 l Z a0 hw _ n0 P162.size b kb 4 (by decide) f x hx e0 e1 SA SH SL V) [(.ref b), (.int (0 : Int32))] [] rfl (lenOf pd_7 rfl) rfl (Nat.le_of_eq rfl) d20_7 rfl (by decide) (by decide) rfl rfl (by decide) (by decide) all0 rfl ?_
  intro T163 h163 v163 P163 K163 Q163
  obtain ⟨e163, g163⟩ := Q163
  subst g163
  subst e163
  show KGo p e below _ T163 m 10 #[.val (.ref b), .val (.int (0 : Int32))] [(.int x)]
  exact k_retZ (z' := x) C P163 (by simp) d20_10 (own_nch hx) (by decide) (by decide) ⟨rfl, rfl⟩
theorem pn_10 : plainName "java/lang/String" = true := by first | (simp [plainName, overriddenIn]; done) | decide +kernel
theorem ef_rmSA20 (m : MethodId) (x0 : Addr) (x1 : Int32) : entryFrame m #[(.ref x0), (.int x1)] 2 = mkF m 0 #[.val (.ref x0), .val (.int x1)] [] := by first | (simp [entryFrame, mkF, argsToLocals, Value.category]; done) | rfl
set_option maxRecDepth 65536 in
set_option maxHeartbeats 40000000 in
theorem rmSA20 (l : Launch) (Z : State) (a0 : Array Value) (hw : ∀ d ∈ tables_1, d.before a0 Z = true) (h0 : Heap) (n0 : Nat) (Z0 : n0 ≤ h0.size) (a b : Addr) (F : KOb Z h0 a "java/lang/String" layS [.int 0, .ref b]) (kb : ClassId) (f : Nat → Value) (V : KVA Z h0 b kb .byte 2 f) (x : Int32) (ev : f 0 = .int x.toInt8.toInt32) (hx : own_ch x) (hl : ¬ 255 < x) (cs : Int32) (hcs : ¬ cs = 0) (SC : Sta Z h0 "java/lang/String" "COMPACT_STRINGS" "Z" (.int cs)) (fv : Value) (hfv : fv.isRef = true) (SFm : Sta Z h0 "jdk/internal/util/Preconditions" "SIOOBE_FORMATTER" "Ljava/util/function/BiFunction;" fv) (SA : Sta Z h0 "java/lang/StringUTF16" "$assertionsDisabled" "Z" (.int 1)) (SH : Sta Z h0 "java/lang/StringUTF16" "HI_BYTE_SHIFT" "I" (.int 0)) (SL : Sta Z h0 "java/lang/StringUTF16" "LO_BYTE_SHIFT" "I" (.int 8)) :
    KCt false l (⟨"java/lang/String", "charAt", "(I)C"⟩ : MethodName) jdk_42_method_56_code 2 (some .char) ({ frames := 4, cells := 0, slots := 0, locals := 80 } : Room) Z n0 h0 #[(.ref a), (.int (0 : Int32))] [] (fun v h => v = some (.int x) ∧ h0 = h) := by
  refine k_enter (tbl := tables_1) (a0 := a0) (Ls := #[.val (.ref a), .val (.int (0 : Int32))]) (plainFor_of_name pn_10) hw Z0 (fun m => ef_rmSA20 m a (0 : Int32)) ?_
  intro p e s m below meth c T C P
  refine k_aloadN (pc' := 1) C P d10_0 rfl rfl rfl ?_
  refine k_callV (pc' := 4) (cells' := 0) (slots' := 0) (W := 0) C P (C.w 54 rfl) (C.w 55 rfl) (fun _ q => notFace_of_selects (args := #[]) (mvT q (C.w 57 rfl))) (C.w 57 rfl) (C.w 56 rfl) (C.w 58 rfl) (C.w 5 rfl) (by decide) (rmLat0 l Z a0 hw _ n0 P.size a b F cs hcs SC) F.exa [] [] rfl (lenOf pd_12 rfl) rfl (Nat.le_of_eq rfl) d10_1 rfl (by decide) (by decide) rfl rfl (by decide) (by decide) all0 rfl ?_
  intro T164 h164 v164 P164 K164 Q164
  obtain ⟨e164, g164⟩ := Q164
  subst g164
  subst e164
  show KGo p e below _ T164 m 4 #[.val (.ref a), .val (.int (0 : Int32))] [(.int (1 : Int32))]
  refine k_ifN (pc' := 7) C P164 d10_4 k_10 rfl ?_
  refine k_aloadN (pc' := 8) C P164 d10_7 rfl rfl rfl ?_
  refine k_getf (pc' := 11) C P164 (C.w 22 rfl) Via.refl F 1 rfl rfl d10_8 rfl ?_
  intro T165 P165
  refine k_iloadN (pc' := 12) C P165 d10_11 rfl rfl ?_
  refine k_callT (pc' := 15) (cells' := 0) (slots' := 0) (W := 0) C P165 (C.w 59 rfl) (C.w 60 rfl) (C.w 62 rfl) (C.w 61 rfl) (by decide) (rmLC l Z a0 hw _ n0 P165.size b kb 2 0 (2 : Int32) (0 : Int32) x rfl rfl (by decide) f V ev hx hl fv hfv SFm) [(.ref b), (.int (0 : Int32))] [] rfl (lenOf pd_7 rfl) rfl (Nat.le_of_eq rfl) d10_12 rfl (by decide) (by decide) rfl rfl (by decide) (by decide) all0 rfl ?_
  intro T166 h166 v166 P166 K166 Q166
  obtain ⟨e166, g166⟩ := Q166
  subst g166
  subst e166
  show KGo p e below _ T166 m 15 #[.val (.ref a), .val (.int (0 : Int32))] [(.int x)]
  exact k_retZ (z' := x) C P166 (by simp) d10_15 (own_nch hx) (by decide) (by decide) ⟨rfl, rfl⟩
theorem ef_rmSU20 (m : MethodId) (x0 : Addr) (x1 : Int32) : entryFrame m #[(.ref x0), (.int x1)] 2 = mkF m 0 #[.val (.ref x0), .val (.int x1)] [] := by first | (simp [entryFrame, mkF, argsToLocals, Value.category]; done) | rfl
set_option maxRecDepth 65536 in
set_option maxHeartbeats 40000000 in
theorem rmSU20 (l : Launch) (Z : State) (a0 : Array Value) (hw : ∀ d ∈ tables_1, d.before a0 Z = true) (h0 : Heap) (n0 : Nat) (Z0 : n0 ≤ h0.size) (a b : Addr) (F : KOb Z h0 a "java/lang/String" layS [.int 1, .ref b]) (kb : ClassId) (f : Nat → Int32) (V : KVA Z h0 b kb .byte 4 (fun j => .int (f j))) (x : Int32) (hx : own_ch x) (e0 : f 0 = own_lo x) (e1 : f 1 = own_hi x) (cs : Int32) (hcs : ¬ cs = 0) (SC : Sta Z h0 "java/lang/String" "COMPACT_STRINGS" "Z" (.int cs)) (fv : Value) (hfv : fv.isRef = true) (SFm : Sta Z h0 "jdk/internal/util/Preconditions" "SIOOBE_FORMATTER" "Ljava/util/function/BiFunction;" fv) (SA : Sta Z h0 "java/lang/StringUTF16" "$assertionsDisabled" "Z" (.int 1)) (SH : Sta Z h0 "java/lang/StringUTF16" "HI_BYTE_SHIFT" "I" (.int 0)) (SL : Sta Z h0 "java/lang/StringUTF16" "LO_BYTE_SHIFT" "I" (.int 8)) :
    KCt false l (⟨"java/lang/String", "charAt", "(I)C"⟩ : MethodName) jdk_42_method_56_code 2 (some .char) ({ frames := 4, cells := 0, slots := 0, locals := 80 } : Room) Z n0 h0 #[(.ref a), (.int (0 : Int32))] [] (fun v h => v = some (.int x) ∧ h0 = h) := by
  refine k_enter (tbl := tables_1) (a0 := a0) (Ls := #[.val (.ref a), .val (.int (0 : Int32))]) (plainFor_of_name pn_10) hw Z0 (fun m => ef_rmSU20 m a (0 : Int32)) ?_
  intro p e s m below meth c T C P
  refine k_aloadN (pc' := 1) C P d10_0 rfl rfl rfl ?_
  refine k_callV (pc' := 4) (cells' := 0) (slots' := 0) (W := 0) C P (C.w 54 rfl) (C.w 55 rfl) (fun _ q => notFace_of_selects (args := #[]) (mvT q (C.w 57 rfl))) (C.w 57 rfl) (C.w 56 rfl) (C.w 58 rfl) (C.w 5 rfl) (by decide) (rmLat1 l Z a0 hw _ n0 P.size a b F cs hcs SC) F.exa [] [] rfl (lenOf pd_12 rfl) rfl (Nat.le_of_eq rfl) d10_1 rfl (by decide) (by decide) rfl rfl (by decide) (by decide) all0 rfl ?_
  intro T167 h167 v167 P167 K167 Q167
  obtain ⟨e167, g167⟩ := Q167
  subst g167
  subst e167
  show KGo p e below _ T167 m 4 #[.val (.ref a), .val (.int (0 : Int32))] [(.int (0 : Int32))]
  refine k_ifY (pc' := 16) C P167 d10_4 k_01 (by decide) (by decide) ?_
  refine k_aloadN (pc' := 17) C P167 d10_16 rfl rfl rfl ?_
  refine k_getf (pc' := 20) C P167 (C.w 22 rfl) Via.refl F 1 rfl rfl d10_17 rfl ?_
  intro T168 P168
  refine k_iloadN (pc' := 21) C P168 d10_20 rfl rfl ?_
  refine k_callT (pc' := 24) (cells' := 0) (slots' := 0) (W := 0) C P168 (C.w 90 rfl) (C.w 91 rfl) (C.w 92 rfl) (C.w 41 rfl) (by decide) (rmUA20 l Z a0 hw _ n0 P168.size b kb f V x hx e0 e1 fv hfv SFm SA SH SL) [(.ref b), (.int (0 : Int32))] [] rfl (lenOf pd_7 rfl) rfl (Nat.le_of_eq rfl) d10_21 rfl (by decide) (by decide) rfl rfl (by decide) (by decide) all0 rfl ?_
  intro T169 h169 v169 P169 K169 Q169
  obtain ⟨e169, g169⟩ := Q169
  subst g169
  subst e169
  show KGo p e below _ T169 m 24 #[.val (.ref a), .val (.int (0 : Int32))] [(.int x)]
  exact k_retZ (z' := x) C P169 (by simp) d10_24 (own_nch hx) (by decide) (by decide) ⟨rfl, rfl⟩
theorem ef_rmUX21 (m : MethodId) (x0 : Int32) (x1 : Addr) : entryFrame m #[(.int x0), (.ref x1)] 2 = mkF m 0 #[.val (.int x0), .val (.ref x1)] [] := by first | (simp [entryFrame, mkF, argsToLocals, Value.category]; done) | rfl
set_option maxRecDepth 65536 in
set_option maxHeartbeats 40000000 in
theorem rmUX21 (l : Launch) (Z : State) (a0 : Array Value) (hw : ∀ d ∈ tables_1, d.before a0 Z = true) (h0 : Heap) (n0 : Nat) (Z0 : n0 ≤ h0.size) (b : Addr) (kb : ClassId) (f : Nat → Value) (V : KVA Z h0 b kb .byte 4 f) (fv : Value) (hfv : fv.isRef = true) (SFm : Sta Z h0 "jdk/internal/util/Preconditions" "SIOOBE_FORMATTER" "Ljava/util/function/BiFunction;" fv) :
    KCt false l (⟨"java/lang/StringUTF16", "checkIndex", "(I[B)V"⟩ : MethodName) jdk_52_method_91_code 2 none ({ frames := 2, cells := 0, slots := 0, locals := 32 } : Room) Z n0 h0 #[(.int (1 : Int32)), (.ref b)] [] (fun v h => v = none ∧ h0 = h) := by
  refine k_enter (tbl := tables_1) (a0 := a0) (Ls := #[.val (.int (1 : Int32)), .val (.ref b)]) (plainFor_of_name pn_21) hw Z0 (fun m => ef_rmUX21 m (1 : Int32) b) ?_
  intro p e s m below meth c T C P
  refine k_iloadN (pc' := 1) C P d21_0 rfl rfl ?_
  refine k_aloadN (pc' := 2) C P d21_1 rfl rfl rfl ?_
  refine k_callT (pc' := 5) (cells' := 0) (slots' := 0) (W := 1) C P (C.w 96 rfl) (C.w 97 rfl) (C.w 98 rfl) (C.w 41 rfl) (by decide) (rmUL2 l Z a0 hw _ n0 P.size b kb f V) [(.ref b)] [(.int (1 : Int32))] rfl (lenOf pd_10 rfl) rfl (Nat.le_of_eq rfl) d21_2 rfl (by decide) (by decide) rfl rfl (by decide) (by decide) all0 rfl ?_
  intro T170 h170 v170 P170 K170 Q170
  obtain ⟨e170, g170⟩ := Q170
  subst g170
  subst e170
  show KGo p e below _ T170 m 5 #[.val (.int (1 : Int32)), .val (.ref b)] [(.int (2 : Int32)), (.int (1 : Int32))]
  refine k_callT (pc' := 8) (cells' := 0) (slots' := 0) (W := 0) C P170 (C.w 99 rfl) (C.w 64 rfl) (C.w 65 rfl) (C.w 5 rfl) (by decide) (rmSCI l Z a0 hw _ n0 P170.size (1 : Int32) (2 : Int32) (by decide) (by decide) fv hfv SFm) [(.int (1 : Int32)), (.int (2 : Int32))] [] rfl (lenOf pd_9 rfl) rfl (Nat.le_of_eq rfl) d21_5 rfl (by decide) (by decide) rfl rfl (by decide) (by decide) all0 rfl ?_
  intro T171 h171 v171 P171 K171 Q171
  obtain ⟨e171, g171⟩ := Q171
  subst g171
  subst e171
  show KGo p e below _ T171 m 8 #[.val (.int (1 : Int32)), .val (.ref b)] []
  exact k_retV C P171 d21_8 (by decide) (by decide) ⟨rfl, rfl⟩
theorem ef_rmUA21 (m : MethodId) (x0 : Addr) (x1 : Int32) : entryFrame m #[(.ref x0), (.int x1)] 2 = mkF m 0 #[.val (.ref x0), .val (.int x1)] [] := by first | (simp [entryFrame, mkF, argsToLocals, Value.category]; done) | rfl
set_option maxRecDepth 65536 in
set_option maxHeartbeats 40000000 in
theorem rmUA21 (l : Launch) (Z : State) (a0 : Array Value) (hw : ∀ d ∈ tables_1, d.before a0 Z = true) (h0 : Heap) (n0 : Nat) (Z0 : n0 ≤ h0.size) (b : Addr) (kb : ClassId) (f : Nat → Int32) (V : KVA Z h0 b kb .byte 4 (fun j => .int (f j))) (x : Int32) (hx : own_ch x) (e0 : f 2 = own_lo x) (e1 : f 3 = own_hi x) (fv : Value) (hfv : fv.isRef = true) (SFm : Sta Z h0 "jdk/internal/util/Preconditions" "SIOOBE_FORMATTER" "Ljava/util/function/BiFunction;" fv) (SA : Sta Z h0 "java/lang/StringUTF16" "$assertionsDisabled" "Z" (.int 1)) (SH : Sta Z h0 "java/lang/StringUTF16" "HI_BYTE_SHIFT" "I" (.int 0)) (SL : Sta Z h0 "java/lang/StringUTF16" "LO_BYTE_SHIFT" "I" (.int 8)) :
    KCt false l (⟨"java/lang/StringUTF16", "charAt", "([BI)C"⟩ : MethodName) jdk_52_method_83_code 2 (some .char) ({ frames := 3, cells := 0, slots := 0, locals := 50 } : Room) Z n0 h0 #[(.ref b), (.int (1 : Int32))] [] (fun v h => v = some (.int x) ∧ h0 = h) := by
  refine k_enter (tbl := tables_1) (a0 := a0) (Ls := #[.val (.ref b), .val (.int (1 : Int32))]) (plainFor_of_name pn_20) hw Z0 (fun m => ef_rmUA21 m b (1 : Int32)) ?_
  intro p e s m below meth c T C P
  refine k_iloadN (pc' := 1) C P d20_0 rfl rfl ?_
  refine k_aloadN (pc' := 2) C P d20_1 rfl rfl rfl ?_
  refine k_callT (pc' := 5) (cells' := 0) (slots' := 0) (W := 0) C P (C.w 93 rfl) (C.w 94 rfl) (C.w 95 rfl) (C.w 41 rfl) (by decide) (rmUX21 l Z a0 hw _ n0 P.size b kb _ V fv hfv SFm) [(.int (1 : Int32)), (.ref b)] [] rfl (lenOf pd_11 rfl) rfl (Nat.le_of_eq rfl) d20_2 rfl (by decide) (by decide) rfl rfl (by decide) (by decide) all0 rfl ?_
  intro T172 h172 v172 P172 K172 Q172
  obtain ⟨e172, g172⟩ := Q172
  subst g172
  subst e172
  show KGo p e below _ T172 m 5 #[.val (.ref b), .val (.int (1 : Int32))] []
  refine k_aloadN (pc' := 6) C P172 d20_5 rfl rfl rfl ?_
  refine k_iloadN (pc' := 7) C P172 d20_6 rfl rfl ?_
  refine k_callT (pc' := 10) (cells' := 0) (slots' := 0) (W := 0) C P172 (C.w 87 rfl) (C.w 88 rfl) (C.w 89 rfl) (C.w 41 rfl) (by decide) (rmGC1 l Z a0 hw _ n0 P172.size b kb 4 (by decide) f x hx e0 e1 SA SH SL V) [(.ref b), (.int (1 : Int32))] [] rfl (lenOf pd_7 rfl) rfl (Nat.le_of_eq rfl) d20_7 rfl (by decide) (by decide) rfl rfl (by decide) (by decide) all0 rfl ?_
  intro T173 h173 v173 P173 K173 Q173
  obtain ⟨e173, g173⟩ := Q173
  subst g173
  subst e173
  show KGo p e below _ T173 m 10 #[.val (.ref b), .val (.int (1 : Int32))] [(.int x)]
  exact k_retZ (z' := x) C P173 (by simp) d20_10 (own_nch hx) (by decide) (by decide) ⟨rfl, rfl⟩
theorem ef_rmSA21 (m : MethodId) (x0 : Addr) (x1 : Int32) : entryFrame m #[(.ref x0), (.int x1)] 2 = mkF m 0 #[.val (.ref x0), .val (.int x1)] [] := by first | (simp [entryFrame, mkF, argsToLocals, Value.category]; done) | rfl
set_option maxRecDepth 65536 in
set_option maxHeartbeats 40000000 in
theorem rmSA21 (l : Launch) (Z : State) (a0 : Array Value) (hw : ∀ d ∈ tables_1, d.before a0 Z = true) (h0 : Heap) (n0 : Nat) (Z0 : n0 ≤ h0.size) (a b : Addr) (F : KOb Z h0 a "java/lang/String" layS [.int 0, .ref b]) (kb : ClassId) (f : Nat → Value) (V : KVA Z h0 b kb .byte 2 f) (x : Int32) (ev : f 1 = .int x.toInt8.toInt32) (hx : own_ch x) (hl : ¬ 255 < x) (cs : Int32) (hcs : ¬ cs = 0) (SC : Sta Z h0 "java/lang/String" "COMPACT_STRINGS" "Z" (.int cs)) (fv : Value) (hfv : fv.isRef = true) (SFm : Sta Z h0 "jdk/internal/util/Preconditions" "SIOOBE_FORMATTER" "Ljava/util/function/BiFunction;" fv) (SA : Sta Z h0 "java/lang/StringUTF16" "$assertionsDisabled" "Z" (.int 1)) (SH : Sta Z h0 "java/lang/StringUTF16" "HI_BYTE_SHIFT" "I" (.int 0)) (SL : Sta Z h0 "java/lang/StringUTF16" "LO_BYTE_SHIFT" "I" (.int 8)) :
    KCt false l (⟨"java/lang/String", "charAt", "(I)C"⟩ : MethodName) jdk_42_method_56_code 2 (some .char) ({ frames := 4, cells := 0, slots := 0, locals := 80 } : Room) Z n0 h0 #[(.ref a), (.int (1 : Int32))] [] (fun v h => v = some (.int x) ∧ h0 = h) := by
  refine k_enter (tbl := tables_1) (a0 := a0) (Ls := #[.val (.ref a), .val (.int (1 : Int32))]) (plainFor_of_name pn_10) hw Z0 (fun m => ef_rmSA21 m a (1 : Int32)) ?_
  intro p e s m below meth c T C P
  refine k_aloadN (pc' := 1) C P d10_0 rfl rfl rfl ?_
  refine k_callV (pc' := 4) (cells' := 0) (slots' := 0) (W := 0) C P (C.w 54 rfl) (C.w 55 rfl) (fun _ q => notFace_of_selects (args := #[]) (mvT q (C.w 57 rfl))) (C.w 57 rfl) (C.w 56 rfl) (C.w 58 rfl) (C.w 5 rfl) (by decide) (rmLat0 l Z a0 hw _ n0 P.size a b F cs hcs SC) F.exa [] [] rfl (lenOf pd_12 rfl) rfl (Nat.le_of_eq rfl) d10_1 rfl (by decide) (by decide) rfl rfl (by decide) (by decide) all0 rfl ?_
  intro T174 h174 v174 P174 K174 Q174
  obtain ⟨e174, g174⟩ := Q174
  subst g174
  subst e174
  show KGo p e below _ T174 m 4 #[.val (.ref a), .val (.int (1 : Int32))] [(.int (1 : Int32))]
  refine k_ifN (pc' := 7) C P174 d10_4 k_10 rfl ?_
  refine k_aloadN (pc' := 8) C P174 d10_7 rfl rfl rfl ?_
  refine k_getf (pc' := 11) C P174 (C.w 22 rfl) Via.refl F 1 rfl rfl d10_8 rfl ?_
  intro T175 P175
  refine k_iloadN (pc' := 12) C P175 d10_11 rfl rfl ?_
  refine k_callT (pc' := 15) (cells' := 0) (slots' := 0) (W := 0) C P175 (C.w 59 rfl) (C.w 60 rfl) (C.w 62 rfl) (C.w 61 rfl) (by decide) (rmLC l Z a0 hw _ n0 P175.size b kb 2 1 (2 : Int32) (1 : Int32) x rfl rfl (by decide) f V ev hx hl fv hfv SFm) [(.ref b), (.int (1 : Int32))] [] rfl (lenOf pd_7 rfl) rfl (Nat.le_of_eq rfl) d10_12 rfl (by decide) (by decide) rfl rfl (by decide) (by decide) all0 rfl ?_
  intro T176 h176 v176 P176 K176 Q176
  obtain ⟨e176, g176⟩ := Q176
  subst g176
  subst e176
  show KGo p e below _ T176 m 15 #[.val (.ref a), .val (.int (1 : Int32))] [(.int x)]
  exact k_retZ (z' := x) C P176 (by simp) d10_15 (own_nch hx) (by decide) (by decide) ⟨rfl, rfl⟩
theorem ef_rmSU21 (m : MethodId) (x0 : Addr) (x1 : Int32) : entryFrame m #[(.ref x0), (.int x1)] 2 = mkF m 0 #[.val (.ref x0), .val (.int x1)] [] := by first | (simp [entryFrame, mkF, argsToLocals, Value.category]; done) | rfl
set_option maxRecDepth 65536 in
set_option maxHeartbeats 40000000 in
theorem rmSU21 (l : Launch) (Z : State) (a0 : Array Value) (hw : ∀ d ∈ tables_1, d.before a0 Z = true) (h0 : Heap) (n0 : Nat) (Z0 : n0 ≤ h0.size) (a b : Addr) (F : KOb Z h0 a "java/lang/String" layS [.int 1, .ref b]) (kb : ClassId) (f : Nat → Int32) (V : KVA Z h0 b kb .byte 4 (fun j => .int (f j))) (x : Int32) (hx : own_ch x) (e0 : f 2 = own_lo x) (e1 : f 3 = own_hi x) (cs : Int32) (hcs : ¬ cs = 0) (SC : Sta Z h0 "java/lang/String" "COMPACT_STRINGS" "Z" (.int cs)) (fv : Value) (hfv : fv.isRef = true) (SFm : Sta Z h0 "jdk/internal/util/Preconditions" "SIOOBE_FORMATTER" "Ljava/util/function/BiFunction;" fv) (SA : Sta Z h0 "java/lang/StringUTF16" "$assertionsDisabled" "Z" (.int 1)) (SH : Sta Z h0 "java/lang/StringUTF16" "HI_BYTE_SHIFT" "I" (.int 0)) (SL : Sta Z h0 "java/lang/StringUTF16" "LO_BYTE_SHIFT" "I" (.int 8)) :
    KCt false l (⟨"java/lang/String", "charAt", "(I)C"⟩ : MethodName) jdk_42_method_56_code 2 (some .char) ({ frames := 4, cells := 0, slots := 0, locals := 80 } : Room) Z n0 h0 #[(.ref a), (.int (1 : Int32))] [] (fun v h => v = some (.int x) ∧ h0 = h) := by
  refine k_enter (tbl := tables_1) (a0 := a0) (Ls := #[.val (.ref a), .val (.int (1 : Int32))]) (plainFor_of_name pn_10) hw Z0 (fun m => ef_rmSU21 m a (1 : Int32)) ?_
  intro p e s m below meth c T C P
  refine k_aloadN (pc' := 1) C P d10_0 rfl rfl rfl ?_
  refine k_callV (pc' := 4) (cells' := 0) (slots' := 0) (W := 0) C P (C.w 54 rfl) (C.w 55 rfl) (fun _ q => notFace_of_selects (args := #[]) (mvT q (C.w 57 rfl))) (C.w 57 rfl) (C.w 56 rfl) (C.w 58 rfl) (C.w 5 rfl) (by decide) (rmLat1 l Z a0 hw _ n0 P.size a b F cs hcs SC) F.exa [] [] rfl (lenOf pd_12 rfl) rfl (Nat.le_of_eq rfl) d10_1 rfl (by decide) (by decide) rfl rfl (by decide) (by decide) all0 rfl ?_
  intro T177 h177 v177 P177 K177 Q177
  obtain ⟨e177, g177⟩ := Q177
  subst g177
  subst e177
  show KGo p e below _ T177 m 4 #[.val (.ref a), .val (.int (1 : Int32))] [(.int (0 : Int32))]
  refine k_ifY (pc' := 16) C P177 d10_4 k_01 (by decide) (by decide) ?_
  refine k_aloadN (pc' := 17) C P177 d10_16 rfl rfl rfl ?_
  refine k_getf (pc' := 20) C P177 (C.w 22 rfl) Via.refl F 1 rfl rfl d10_17 rfl ?_
  intro T178 P178
  refine k_iloadN (pc' := 21) C P178 d10_20 rfl rfl ?_
  refine k_callT (pc' := 24) (cells' := 0) (slots' := 0) (W := 0) C P178 (C.w 90 rfl) (C.w 91 rfl) (C.w 92 rfl) (C.w 41 rfl) (by decide) (rmUA21 l Z a0 hw _ n0 P178.size b kb f V x hx e0 e1 fv hfv SFm SA SH SL) [(.ref b), (.int (1 : Int32))] [] rfl (lenOf pd_7 rfl) rfl (Nat.le_of_eq rfl) d10_21 rfl (by decide) (by decide) rfl rfl (by decide) (by decide) all0 rfl ?_
  intro T179 h179 v179 P179 K179 Q179
  obtain ⟨e179, g179⟩ := Q179
  subst g179
  subst e179
  show KGo p e below _ T179 m 24 #[.val (.ref a), .val (.int (1 : Int32))] [(.int x)]
  exact k_retZ (z' := x) C P179 (by simp) d10_24 (own_nch hx) (by decide) (by decide) ⟨rfl, rfl⟩
theorem ef_rmUL3 (m : MethodId) (x0 : Addr) : entryFrame m #[(.ref x0)] 1 = mkF m 0 #[.val (.ref x0)] [] := by first | (simp [entryFrame, mkF, argsToLocals, Value.category]; done) | rfl
set_option maxRecDepth 65536 in
set_option maxHeartbeats 40000000 in
theorem rmUL3 (l : Launch) (Z : State) (a0 : Array Value) (hw : ∀ d ∈ tables_1, d.before a0 Z = true) (h0 : Heap) (n0 : Nat) (Z0 : n0 ≤ h0.size) (b : Addr) (kb : ClassId) (f : Nat → Value) (V : KVA Z h0 b kb .byte 6 f) :
    KCt false l (⟨"java/lang/StringUTF16", "length", "([B)I"⟩ : MethodName) jdk_52_method_6_code 1 (some .int) ({ frames := 0, cells := 0, slots := 0, locals := 0 } : Room) Z n0 h0 #[(.ref b)] [] (fun v h => v = some (.int 3) ∧ h0 = h) := by
  refine k_enter (tbl := tables_1) (a0 := a0) (Ls := #[.val (.ref b)]) (plainFor_of_name pn_22) hw Z0 (fun m => ef_rmUL3 m b) ?_
  intro p e s m below meth c T C P
  refine k_aloadN (pc' := 1) C P d22_0 rfl rfl rfl ?_
  refine k_arrlen (z := (6 : Int32)) (pc' := 2) C P V d22_1 rfl rfl ?_
  refine k_iconst (z := (1 : Int32)) (pc' := 3) C P d22_2 rfl rfl ?_
  refine k_ishr (pc' := 4) C P d22_3 rfl ?_
  exact k_retI C P d22_4 (by decide) (by decide) ⟨by rw [own_shr_3], rfl⟩
theorem ef_rmUX30 (m : MethodId) (x0 : Int32) (x1 : Addr) : entryFrame m #[(.int x0), (.ref x1)] 2 = mkF m 0 #[.val (.int x0), .val (.ref x1)] [] := by first | (simp [entryFrame, mkF, argsToLocals, Value.category]; done) | rfl
set_option maxRecDepth 65536 in
set_option maxHeartbeats 40000000 in
theorem rmUX30 (l : Launch) (Z : State) (a0 : Array Value) (hw : ∀ d ∈ tables_1, d.before a0 Z = true) (h0 : Heap) (n0 : Nat) (Z0 : n0 ≤ h0.size) (b : Addr) (kb : ClassId) (f : Nat → Value) (V : KVA Z h0 b kb .byte 6 f) (fv : Value) (hfv : fv.isRef = true) (SFm : Sta Z h0 "jdk/internal/util/Preconditions" "SIOOBE_FORMATTER" "Ljava/util/function/BiFunction;" fv) :
    KCt false l (⟨"java/lang/StringUTF16", "checkIndex", "(I[B)V"⟩ : MethodName) jdk_52_method_91_code 2 none ({ frames := 2, cells := 0, slots := 0, locals := 32 } : Room) Z n0 h0 #[(.int (0 : Int32)), (.ref b)] [] (fun v h => v = none ∧ h0 = h) := by
  refine k_enter (tbl := tables_1) (a0 := a0) (Ls := #[.val (.int (0 : Int32)), .val (.ref b)]) (plainFor_of_name pn_21) hw Z0 (fun m => ef_rmUX30 m (0 : Int32) b) ?_
  intro p e s m below meth c T C P
  refine k_iloadN (pc' := 1) C P d21_0 rfl rfl ?_
  refine k_aloadN (pc' := 2) C P d21_1 rfl rfl rfl ?_
  refine k_callT (pc' := 5) (cells' := 0) (slots' := 0) (W := 1) C P (C.w 96 rfl) (C.w 97 rfl) (C.w 98 rfl) (C.w 41 rfl) (by decide) (rmUL3 l Z a0 hw _ n0 P.size b kb f V) [(.ref b)] [(.int (0 : Int32))] rfl (lenOf pd_10 rfl) rfl (Nat.le_of_eq rfl) d21_2 rfl (by decide) (by decide) rfl rfl (by decide) (by decide) all0 rfl ?_
  intro T180 h180 v180 P180 K180 Q180
  obtain ⟨e180, g180⟩ := Q180
  subst g180
  subst e180
  show KGo p e below _ T180 m 5 #[.val (.int (0 : Int32)), .val (.ref b)] [(.int (3 : Int32)), (.int (0 : Int32))]
  refine k_callT (pc' := 8) (cells' := 0) (slots' := 0) (W := 0) C P180 (C.w 99 rfl) (C.w 64 rfl) (C.w 65 rfl) (C.w 5 rfl) (by decide) (rmSCI l Z a0 hw _ n0 P180.size (0 : Int32) (3 : Int32) (by decide) (by decide) fv hfv SFm) [(.int (0 : Int32)), (.int (3 : Int32))] [] rfl (lenOf pd_9 rfl) rfl (Nat.le_of_eq rfl) d21_5 rfl (by decide) (by decide) rfl rfl (by decide) (by decide) all0 rfl ?_
  intro T181 h181 v181 P181 K181 Q181
  obtain ⟨e181, g181⟩ := Q181
  subst g181
  subst e181
  show KGo p e below _ T181 m 8 #[.val (.int (0 : Int32)), .val (.ref b)] []
  exact k_retV C P181 d21_8 (by decide) (by decide) ⟨rfl, rfl⟩
theorem ef_rmUA30 (m : MethodId) (x0 : Addr) (x1 : Int32) : entryFrame m #[(.ref x0), (.int x1)] 2 = mkF m 0 #[.val (.ref x0), .val (.int x1)] [] := by first | (simp [entryFrame, mkF, argsToLocals, Value.category]; done) | rfl
set_option maxRecDepth 65536 in
set_option maxHeartbeats 40000000 in
theorem rmUA30 (l : Launch) (Z : State) (a0 : Array Value) (hw : ∀ d ∈ tables_1, d.before a0 Z = true) (h0 : Heap) (n0 : Nat) (Z0 : n0 ≤ h0.size) (b : Addr) (kb : ClassId) (f : Nat → Int32) (V : KVA Z h0 b kb .byte 6 (fun j => .int (f j))) (x : Int32) (hx : own_ch x) (e0 : f 0 = own_lo x) (e1 : f 1 = own_hi x) (fv : Value) (hfv : fv.isRef = true) (SFm : Sta Z h0 "jdk/internal/util/Preconditions" "SIOOBE_FORMATTER" "Ljava/util/function/BiFunction;" fv) (SA : Sta Z h0 "java/lang/StringUTF16" "$assertionsDisabled" "Z" (.int 1)) (SH : Sta Z h0 "java/lang/StringUTF16" "HI_BYTE_SHIFT" "I" (.int 0)) (SL : Sta Z h0 "java/lang/StringUTF16" "LO_BYTE_SHIFT" "I" (.int 8)) :
    KCt false l (⟨"java/lang/StringUTF16", "charAt", "([BI)C"⟩ : MethodName) jdk_52_method_83_code 2 (some .char) ({ frames := 3, cells := 0, slots := 0, locals := 50 } : Room) Z n0 h0 #[(.ref b), (.int (0 : Int32))] [] (fun v h => v = some (.int x) ∧ h0 = h) := by
  refine k_enter (tbl := tables_1) (a0 := a0) (Ls := #[.val (.ref b), .val (.int (0 : Int32))]) (plainFor_of_name pn_20) hw Z0 (fun m => ef_rmUA30 m b (0 : Int32)) ?_
  intro p e s m below meth c T C P
  refine k_iloadN (pc' := 1) C P d20_0 rfl rfl ?_
  refine k_aloadN (pc' := 2) C P d20_1 rfl rfl rfl ?_
  refine k_callT (pc' := 5) (cells' := 0) (slots' := 0) (W := 0) C P (C.w 93 rfl) (C.w 94 rfl) (C.w 95 rfl) (C.w 41 rfl) (by decide) (rmUX30 l Z a0 hw _ n0 P.size b kb _ V fv hfv SFm) [(.int (0 : Int32)), (.ref b)] [] rfl (lenOf pd_11 rfl) rfl (Nat.le_of_eq rfl) d20_2 rfl (by decide) (by decide) rfl rfl (by decide) (by decide) all0 rfl ?_
  intro T182 h182 v182 P182 K182 Q182
  obtain ⟨e182, g182⟩ := Q182
  subst g182
  subst e182
  show KGo p e below _ T182 m 5 #[.val (.ref b), .val (.int (0 : Int32))] []
  refine k_aloadN (pc' := 6) C P182 d20_5 rfl rfl rfl ?_
  refine k_iloadN (pc' := 7) C P182 d20_6 rfl rfl ?_
  refine k_callT (pc' := 10) (cells' := 0) (slots' := 0) (W := 0) C P182 (C.w 87 rfl) (C.w 88 rfl) (C.w 89 rfl) (C.w 41 rfl) (by decide) (rmGC0 l Z a0 hw _ n0 P182.size b kb 6 (by decide) f x hx e0 e1 SA SH SL V) [(.ref b), (.int (0 : Int32))] [] rfl (lenOf pd_7 rfl) rfl (Nat.le_of_eq rfl) d20_7 rfl (by decide) (by decide) rfl rfl (by decide) (by decide) all0 rfl ?_
  intro T183 h183 v183 P183 K183 Q183
  obtain ⟨e183, g183⟩ := Q183
  subst g183
  subst e183
  show KGo p e below _ T183 m 10 #[.val (.ref b), .val (.int (0 : Int32))] [(.int x)]
  exact k_retZ (z' := x) C P183 (by simp) d20_10 (own_nch hx) (by decide) (by decide) ⟨rfl, rfl⟩
theorem ef_rmSA30 (m : MethodId) (x0 : Addr) (x1 : Int32) : entryFrame m #[(.ref x0), (.int x1)] 2 = mkF m 0 #[.val (.ref x0), .val (.int x1)] [] := by first | (simp [entryFrame, mkF, argsToLocals, Value.category]; done) | rfl
set_option maxRecDepth 65536 in
set_option maxHeartbeats 40000000 in
theorem rmSA30 (l : Launch) (Z : State) (a0 : Array Value) (hw : ∀ d ∈ tables_1, d.before a0 Z = true) (h0 : Heap) (n0 : Nat) (Z0 : n0 ≤ h0.size) (a b : Addr) (F : KOb Z h0 a "java/lang/String" layS [.int 0, .ref b]) (kb : ClassId) (f : Nat → Value) (V : KVA Z h0 b kb .byte 3 f) (x : Int32) (ev : f 0 = .int x.toInt8.toInt32) (hx : own_ch x) (hl : ¬ 255 < x) (cs : Int32) (hcs : ¬ cs = 0) (SC : Sta Z h0 "java/lang/String" "COMPACT_STRINGS" "Z" (.int cs)) (fv : Value) (hfv : fv.isRef = true) (SFm : Sta Z h0 "jdk/internal/util/Preconditions" "SIOOBE_FORMATTER" "Ljava/util/function/BiFunction;" fv) (SA : Sta Z h0 "java/lang/StringUTF16" "$assertionsDisabled" "Z" (.int 1)) (SH : Sta Z h0 "java/lang/StringUTF16" "HI_BYTE_SHIFT" "I" (.int 0)) (SL : Sta Z h0 "java/lang/StringUTF16" "LO_BYTE_SHIFT" "I" (.int 8)) :
    KCt false l (⟨"java/lang/String", "charAt", "(I)C"⟩ : MethodName) jdk_42_method_56_code 2 (some .char) ({ frames := 4, cells := 0, slots := 0, locals := 80 } : Room) Z n0 h0 #[(.ref a), (.int (0 : Int32))] [] (fun v h => v = some (.int x) ∧ h0 = h) := by
  refine k_enter (tbl := tables_1) (a0 := a0) (Ls := #[.val (.ref a), .val (.int (0 : Int32))]) (plainFor_of_name pn_10) hw Z0 (fun m => ef_rmSA30 m a (0 : Int32)) ?_
  intro p e s m below meth c T C P
  refine k_aloadN (pc' := 1) C P d10_0 rfl rfl rfl ?_
  refine k_callV (pc' := 4) (cells' := 0) (slots' := 0) (W := 0) C P (C.w 54 rfl) (C.w 55 rfl) (fun _ q => notFace_of_selects (args := #[]) (mvT q (C.w 57 rfl))) (C.w 57 rfl) (C.w 56 rfl) (C.w 58 rfl) (C.w 5 rfl) (by decide) (rmLat0 l Z a0 hw _ n0 P.size a b F cs hcs SC) F.exa [] [] rfl (lenOf pd_12 rfl) rfl (Nat.le_of_eq rfl) d10_1 rfl (by decide) (by decide) rfl rfl (by decide) (by decide) all0 rfl ?_
  intro T184 h184 v184 P184 K184 Q184
  obtain ⟨e184, g184⟩ := Q184
  subst g184
  subst e184
  show KGo p e below _ T184 m 4 #[.val (.ref a), .val (.int (0 : Int32))] [(.int (1 : Int32))]
  refine k_ifN (pc' := 7) C P184 d10_4 k_10 rfl ?_
  refine k_aloadN (pc' := 8) C P184 d10_7 rfl rfl rfl ?_
  refine k_getf (pc' := 11) C P184 (C.w 22 rfl) Via.refl F 1 rfl rfl d10_8 rfl ?_
  intro T185 P185
  refine k_iloadN (pc' := 12) C P185 d10_11 rfl rfl ?_
  refine k_callT (pc' := 15) (cells' := 0) (slots' := 0) (W := 0) C P185 (C.w 59 rfl) (C.w 60 rfl) (C.w 62 rfl) (C.w 61 rfl) (by decide) (rmLC l Z a0 hw _ n0 P185.size b kb 3 0 (3 : Int32) (0 : Int32) x rfl rfl (by decide) f V ev hx hl fv hfv SFm) [(.ref b), (.int (0 : Int32))] [] rfl (lenOf pd_7 rfl) rfl (Nat.le_of_eq rfl) d10_12 rfl (by decide) (by decide) rfl rfl (by decide) (by decide) all0 rfl ?_
  intro T186 h186 v186 P186 K186 Q186
  obtain ⟨e186, g186⟩ := Q186
  subst g186
  subst e186
  show KGo p e below _ T186 m 15 #[.val (.ref a), .val (.int (0 : Int32))] [(.int x)]
  exact k_retZ (z' := x) C P186 (by simp) d10_15 (own_nch hx) (by decide) (by decide) ⟨rfl, rfl⟩
theorem ef_rmSU30 (m : MethodId) (x0 : Addr) (x1 : Int32) : entryFrame m #[(.ref x0), (.int x1)] 2 = mkF m 0 #[.val (.ref x0), .val (.int x1)] [] := by first | (simp [entryFrame, mkF, argsToLocals, Value.category]; done) | rfl
set_option maxRecDepth 65536 in
set_option maxHeartbeats 40000000 in
theorem rmSU30 (l : Launch) (Z : State) (a0 : Array Value) (hw : ∀ d ∈ tables_1, d.before a0 Z = true) (h0 : Heap) (n0 : Nat) (Z0 : n0 ≤ h0.size) (a b : Addr) (F : KOb Z h0 a "java/lang/String" layS [.int 1, .ref b]) (kb : ClassId) (f : Nat → Int32) (V : KVA Z h0 b kb .byte 6 (fun j => .int (f j))) (x : Int32) (hx : own_ch x) (e0 : f 0 = own_lo x) (e1 : f 1 = own_hi x) (cs : Int32) (hcs : ¬ cs = 0) (SC : Sta Z h0 "java/lang/String" "COMPACT_STRINGS" "Z" (.int cs)) (fv : Value) (hfv : fv.isRef = true) (SFm : Sta Z h0 "jdk/internal/util/Preconditions" "SIOOBE_FORMATTER" "Ljava/util/function/BiFunction;" fv) (SA : Sta Z h0 "java/lang/StringUTF16" "$assertionsDisabled" "Z" (.int 1)) (SH : Sta Z h0 "java/lang/StringUTF16" "HI_BYTE_SHIFT" "I" (.int 0)) (SL : Sta Z h0 "java/lang/StringUTF16" "LO_BYTE_SHIFT" "I" (.int 8)) :
    KCt false l (⟨"java/lang/String", "charAt", "(I)C"⟩ : MethodName) jdk_42_method_56_code 2 (some .char) ({ frames := 4, cells := 0, slots := 0, locals := 80 } : Room) Z n0 h0 #[(.ref a), (.int (0 : Int32))] [] (fun v h => v = some (.int x) ∧ h0 = h) := by
  refine k_enter (tbl := tables_1) (a0 := a0) (Ls := #[.val (.ref a), .val (.int (0 : Int32))]) (plainFor_of_name pn_10) hw Z0 (fun m => ef_rmSU30 m a (0 : Int32)) ?_
  intro p e s m below meth c T C P
  refine k_aloadN (pc' := 1) C P d10_0 rfl rfl rfl ?_
  refine k_callV (pc' := 4) (cells' := 0) (slots' := 0) (W := 0) C P (C.w 54 rfl) (C.w 55 rfl) (fun _ q => notFace_of_selects (args := #[]) (mvT q (C.w 57 rfl))) (C.w 57 rfl) (C.w 56 rfl) (C.w 58 rfl) (C.w 5 rfl) (by decide) (rmLat1 l Z a0 hw _ n0 P.size a b F cs hcs SC) F.exa [] [] rfl (lenOf pd_12 rfl) rfl (Nat.le_of_eq rfl) d10_1 rfl (by decide) (by decide) rfl rfl (by decide) (by decide) all0 rfl ?_
  intro T187 h187 v187 P187 K187 Q187
  obtain ⟨e187, g187⟩ := Q187
  subst g187
  subst e187
  show KGo p e below _ T187 m 4 #[.val (.ref a), .val (.int (0 : Int32))] [(.int (0 : Int32))]
  refine k_ifY (pc' := 16) C P187 d10_4 k_01 (by decide) (by decide) ?_
  refine k_aloadN (pc' := 17) C P187 d10_16 rfl rfl rfl ?_
  refine k_getf (pc' := 20) C P187 (C.w 22 rfl) Via.refl F 1 rfl rfl d10_17 rfl ?_
  intro T188 P188
  refine k_iloadN (pc' := 21) C P188 d10_20 rfl rfl ?_
  refine k_callT (pc' := 24) (cells' := 0) (slots' := 0) (W := 0) C P188 (C.w 90 rfl) (C.w 91 rfl) (C.w 92 rfl) (C.w 41 rfl) (by decide) (rmUA30 l Z a0 hw _ n0 P188.size b kb f V x hx e0 e1 fv hfv SFm SA SH SL) [(.ref b), (.int (0 : Int32))] [] rfl (lenOf pd_7 rfl) rfl (Nat.le_of_eq rfl) d10_21 rfl (by decide) (by decide) rfl rfl (by decide) (by decide) all0 rfl ?_
  intro T189 h189 v189 P189 K189 Q189
  obtain ⟨e189, g189⟩ := Q189
  subst g189
  subst e189
  show KGo p e below _ T189 m 24 #[.val (.ref a), .val (.int (0 : Int32))] [(.int x)]
  exact k_retZ (z' := x) C P189 (by simp) d10_24 (own_nch hx) (by decide) (by decide) ⟨rfl, rfl⟩
theorem ef_rmUX31 (m : MethodId) (x0 : Int32) (x1 : Addr) : entryFrame m #[(.int x0), (.ref x1)] 2 = mkF m 0 #[.val (.int x0), .val (.ref x1)] [] := by first | (simp [entryFrame, mkF, argsToLocals, Value.category]; done) | rfl
set_option maxRecDepth 65536 in
set_option maxHeartbeats 40000000 in
theorem rmUX31 (l : Launch) (Z : State) (a0 : Array Value) (hw : ∀ d ∈ tables_1, d.before a0 Z = true) (h0 : Heap) (n0 : Nat) (Z0 : n0 ≤ h0.size) (b : Addr) (kb : ClassId) (f : Nat → Value) (V : KVA Z h0 b kb .byte 6 f) (fv : Value) (hfv : fv.isRef = true) (SFm : Sta Z h0 "jdk/internal/util/Preconditions" "SIOOBE_FORMATTER" "Ljava/util/function/BiFunction;" fv) :
    KCt false l (⟨"java/lang/StringUTF16", "checkIndex", "(I[B)V"⟩ : MethodName) jdk_52_method_91_code 2 none ({ frames := 2, cells := 0, slots := 0, locals := 32 } : Room) Z n0 h0 #[(.int (1 : Int32)), (.ref b)] [] (fun v h => v = none ∧ h0 = h) := by
  refine k_enter (tbl := tables_1) (a0 := a0) (Ls := #[.val (.int (1 : Int32)), .val (.ref b)]) (plainFor_of_name pn_21) hw Z0 (fun m => ef_rmUX31 m (1 : Int32) b) ?_
  intro p e s m below meth c T C P
  refine k_iloadN (pc' := 1) C P d21_0 rfl rfl ?_
  refine k_aloadN (pc' := 2) C P d21_1 rfl rfl rfl ?_
  refine k_callT (pc' := 5) (cells' := 0) (slots' := 0) (W := 1) C P (C.w 96 rfl) (C.w 97 rfl) (C.w 98 rfl) (C.w 41 rfl) (by decide) (rmUL3 l Z a0 hw _ n0 P.size b kb f V) [(.ref b)] [(.int (1 : Int32))] rfl (lenOf pd_10 rfl) rfl (Nat.le_of_eq rfl) d21_2 rfl (by decide) (by decide) rfl rfl (by decide) (by decide) all0 rfl ?_
  intro T190 h190 v190 P190 K190 Q190
  obtain ⟨e190, g190⟩ := Q190
  subst g190
  subst e190
  show KGo p e below _ T190 m 5 #[.val (.int (1 : Int32)), .val (.ref b)] [(.int (3 : Int32)), (.int (1 : Int32))]
  refine k_callT (pc' := 8) (cells' := 0) (slots' := 0) (W := 0) C P190 (C.w 99 rfl) (C.w 64 rfl) (C.w 65 rfl) (C.w 5 rfl) (by decide) (rmSCI l Z a0 hw _ n0 P190.size (1 : Int32) (3 : Int32) (by decide) (by decide) fv hfv SFm) [(.int (1 : Int32)), (.int (3 : Int32))] [] rfl (lenOf pd_9 rfl) rfl (Nat.le_of_eq rfl) d21_5 rfl (by decide) (by decide) rfl rfl (by decide) (by decide) all0 rfl ?_
  intro T191 h191 v191 P191 K191 Q191
  obtain ⟨e191, g191⟩ := Q191
  subst g191
  subst e191
  show KGo p e below _ T191 m 8 #[.val (.int (1 : Int32)), .val (.ref b)] []
  exact k_retV C P191 d21_8 (by decide) (by decide) ⟨rfl, rfl⟩
theorem ef_rmUA31 (m : MethodId) (x0 : Addr) (x1 : Int32) : entryFrame m #[(.ref x0), (.int x1)] 2 = mkF m 0 #[.val (.ref x0), .val (.int x1)] [] := by first | (simp [entryFrame, mkF, argsToLocals, Value.category]; done) | rfl
set_option maxRecDepth 65536 in
set_option maxHeartbeats 40000000 in
theorem rmUA31 (l : Launch) (Z : State) (a0 : Array Value) (hw : ∀ d ∈ tables_1, d.before a0 Z = true) (h0 : Heap) (n0 : Nat) (Z0 : n0 ≤ h0.size) (b : Addr) (kb : ClassId) (f : Nat → Int32) (V : KVA Z h0 b kb .byte 6 (fun j => .int (f j))) (x : Int32) (hx : own_ch x) (e0 : f 2 = own_lo x) (e1 : f 3 = own_hi x) (fv : Value) (hfv : fv.isRef = true) (SFm : Sta Z h0 "jdk/internal/util/Preconditions" "SIOOBE_FORMATTER" "Ljava/util/function/BiFunction;" fv) (SA : Sta Z h0 "java/lang/StringUTF16" "$assertionsDisabled" "Z" (.int 1)) (SH : Sta Z h0 "java/lang/StringUTF16" "HI_BYTE_SHIFT" "I" (.int 0)) (SL : Sta Z h0 "java/lang/StringUTF16" "LO_BYTE_SHIFT" "I" (.int 8)) :
    KCt false l (⟨"java/lang/StringUTF16", "charAt", "([BI)C"⟩ : MethodName) jdk_52_method_83_code 2 (some .char) ({ frames := 3, cells := 0, slots := 0, locals := 50 } : Room) Z n0 h0 #[(.ref b), (.int (1 : Int32))] [] (fun v h => v = some (.int x) ∧ h0 = h) := by
  refine k_enter (tbl := tables_1) (a0 := a0) (Ls := #[.val (.ref b), .val (.int (1 : Int32))]) (plainFor_of_name pn_20) hw Z0 (fun m => ef_rmUA31 m b (1 : Int32)) ?_
  intro p e s m below meth c T C P
  refine k_iloadN (pc' := 1) C P d20_0 rfl rfl ?_
  refine k_aloadN (pc' := 2) C P d20_1 rfl rfl rfl ?_
  refine k_callT (pc' := 5) (cells' := 0) (slots' := 0) (W := 0) C P (C.w 93 rfl) (C.w 94 rfl) (C.w 95 rfl) (C.w 41 rfl) (by decide) (rmUX31 l Z a0 hw _ n0 P.size b kb _ V fv hfv SFm) [(.int (1 : Int32)), (.ref b)] [] rfl (lenOf pd_11 rfl) rfl (Nat.le_of_eq rfl) d20_2 rfl (by decide) (by decide) rfl rfl (by decide) (by decide) all0 rfl ?_
  intro T192 h192 v192 P192 K192 Q192
  obtain ⟨e192, g192⟩ := Q192
  subst g192
  subst e192
  show KGo p e below _ T192 m 5 #[.val (.ref b), .val (.int (1 : Int32))] []
  refine k_aloadN (pc' := 6) C P192 d20_5 rfl rfl rfl ?_
  refine k_iloadN (pc' := 7) C P192 d20_6 rfl rfl ?_
  refine k_callT (pc' := 10) (cells' := 0) (slots' := 0) (W := 0) C P192 (C.w 87 rfl) (C.w 88 rfl) (C.w 89 rfl) (C.w 41 rfl) (by decide) (rmGC1 l Z a0 hw _ n0 P192.size b kb 6 (by decide) f x hx e0 e1 SA SH SL V) [(.ref b), (.int (1 : Int32))] [] rfl (lenOf pd_7 rfl) rfl (Nat.le_of_eq rfl) d20_7 rfl (by decide) (by decide) rfl rfl (by decide) (by decide) all0 rfl ?_
  intro T193 h193 v193 P193 K193 Q193
  obtain ⟨e193, g193⟩ := Q193
  subst g193
  subst e193
  show KGo p e below _ T193 m 10 #[.val (.ref b), .val (.int (1 : Int32))] [(.int x)]
  exact k_retZ (z' := x) C P193 (by simp) d20_10 (own_nch hx) (by decide) (by decide) ⟨rfl, rfl⟩
theorem ef_rmSA31 (m : MethodId) (x0 : Addr) (x1 : Int32) : entryFrame m #[(.ref x0), (.int x1)] 2 = mkF m 0 #[.val (.ref x0), .val (.int x1)] [] := by first | (simp [entryFrame, mkF, argsToLocals, Value.category]; done) | rfl
set_option maxRecDepth 65536 in
set_option maxHeartbeats 40000000 in
theorem rmSA31 (l : Launch) (Z : State) (a0 : Array Value) (hw : ∀ d ∈ tables_1, d.before a0 Z = true) (h0 : Heap) (n0 : Nat) (Z0 : n0 ≤ h0.size) (a b : Addr) (F : KOb Z h0 a "java/lang/String" layS [.int 0, .ref b]) (kb : ClassId) (f : Nat → Value) (V : KVA Z h0 b kb .byte 3 f) (x : Int32) (ev : f 1 = .int x.toInt8.toInt32) (hx : own_ch x) (hl : ¬ 255 < x) (cs : Int32) (hcs : ¬ cs = 0) (SC : Sta Z h0 "java/lang/String" "COMPACT_STRINGS" "Z" (.int cs)) (fv : Value) (hfv : fv.isRef = true) (SFm : Sta Z h0 "jdk/internal/util/Preconditions" "SIOOBE_FORMATTER" "Ljava/util/function/BiFunction;" fv) (SA : Sta Z h0 "java/lang/StringUTF16" "$assertionsDisabled" "Z" (.int 1)) (SH : Sta Z h0 "java/lang/StringUTF16" "HI_BYTE_SHIFT" "I" (.int 0)) (SL : Sta Z h0 "java/lang/StringUTF16" "LO_BYTE_SHIFT" "I" (.int 8)) :
    KCt false l (⟨"java/lang/String", "charAt", "(I)C"⟩ : MethodName) jdk_42_method_56_code 2 (some .char) ({ frames := 4, cells := 0, slots := 0, locals := 80 } : Room) Z n0 h0 #[(.ref a), (.int (1 : Int32))] [] (fun v h => v = some (.int x) ∧ h0 = h) := by
  refine k_enter (tbl := tables_1) (a0 := a0) (Ls := #[.val (.ref a), .val (.int (1 : Int32))]) (plainFor_of_name pn_10) hw Z0 (fun m => ef_rmSA31 m a (1 : Int32)) ?_
  intro p e s m below meth c T C P
  refine k_aloadN (pc' := 1) C P d10_0 rfl rfl rfl ?_
  refine k_callV (pc' := 4) (cells' := 0) (slots' := 0) (W := 0) C P (C.w 54 rfl) (C.w 55 rfl) (fun _ q => notFace_of_selects (args := #[]) (mvT q (C.w 57 rfl))) (C.w 57 rfl) (C.w 56 rfl) (C.w 58 rfl) (C.w 5 rfl) (by decide) (rmLat0 l Z a0 hw _ n0 P.size a b F cs hcs SC) F.exa [] [] rfl (lenOf pd_12 rfl) rfl (Nat.le_of_eq rfl) d10_1 rfl (by decide) (by decide) rfl rfl (by decide) (by decide) all0 rfl ?_
  intro T194 h194 v194 P194 K194 Q194
  obtain ⟨e194, g194⟩ := Q194
  subst g194
  subst e194
  show KGo p e below _ T194 m 4 #[.val (.ref a), .val (.int (1 : Int32))] [(.int (1 : Int32))]
  refine k_ifN (pc' := 7) C P194 d10_4 k_10 rfl ?_
  refine k_aloadN (pc' := 8) C P194 d10_7 rfl rfl rfl ?_
  refine k_getf (pc' := 11) C P194 (C.w 22 rfl) Via.refl F 1 rfl rfl d10_8 rfl ?_
  intro T195 P195
  refine k_iloadN (pc' := 12) C P195 d10_11 rfl rfl ?_
  refine k_callT (pc' := 15) (cells' := 0) (slots' := 0) (W := 0) C P195 (C.w 59 rfl) (C.w 60 rfl) (C.w 62 rfl) (C.w 61 rfl) (by decide) (rmLC l Z a0 hw _ n0 P195.size b kb 3 1 (3 : Int32) (1 : Int32) x rfl rfl (by decide) f V ev hx hl fv hfv SFm) [(.ref b), (.int (1 : Int32))] [] rfl (lenOf pd_7 rfl) rfl (Nat.le_of_eq rfl) d10_12 rfl (by decide) (by decide) rfl rfl (by decide) (by decide) all0 rfl ?_
  intro T196 h196 v196 P196 K196 Q196
  obtain ⟨e196, g196⟩ := Q196
  subst g196
  subst e196
  show KGo p e below _ T196 m 15 #[.val (.ref a), .val (.int (1 : Int32))] [(.int x)]
  exact k_retZ (z' := x) C P196 (by simp) d10_15 (own_nch hx) (by decide) (by decide) ⟨rfl, rfl⟩
theorem ef_rmSU31 (m : MethodId) (x0 : Addr) (x1 : Int32) : entryFrame m #[(.ref x0), (.int x1)] 2 = mkF m 0 #[.val (.ref x0), .val (.int x1)] [] := by first | (simp [entryFrame, mkF, argsToLocals, Value.category]; done) | rfl
set_option maxRecDepth 65536 in
set_option maxHeartbeats 40000000 in
theorem rmSU31 (l : Launch) (Z : State) (a0 : Array Value) (hw : ∀ d ∈ tables_1, d.before a0 Z = true) (h0 : Heap) (n0 : Nat) (Z0 : n0 ≤ h0.size) (a b : Addr) (F : KOb Z h0 a "java/lang/String" layS [.int 1, .ref b]) (kb : ClassId) (f : Nat → Int32) (V : KVA Z h0 b kb .byte 6 (fun j => .int (f j))) (x : Int32) (hx : own_ch x) (e0 : f 2 = own_lo x) (e1 : f 3 = own_hi x) (cs : Int32) (hcs : ¬ cs = 0) (SC : Sta Z h0 "java/lang/String" "COMPACT_STRINGS" "Z" (.int cs)) (fv : Value) (hfv : fv.isRef = true) (SFm : Sta Z h0 "jdk/internal/util/Preconditions" "SIOOBE_FORMATTER" "Ljava/util/function/BiFunction;" fv) (SA : Sta Z h0 "java/lang/StringUTF16" "$assertionsDisabled" "Z" (.int 1)) (SH : Sta Z h0 "java/lang/StringUTF16" "HI_BYTE_SHIFT" "I" (.int 0)) (SL : Sta Z h0 "java/lang/StringUTF16" "LO_BYTE_SHIFT" "I" (.int 8)) :
    KCt false l (⟨"java/lang/String", "charAt", "(I)C"⟩ : MethodName) jdk_42_method_56_code 2 (some .char) ({ frames := 4, cells := 0, slots := 0, locals := 80 } : Room) Z n0 h0 #[(.ref a), (.int (1 : Int32))] [] (fun v h => v = some (.int x) ∧ h0 = h) := by
  refine k_enter (tbl := tables_1) (a0 := a0) (Ls := #[.val (.ref a), .val (.int (1 : Int32))]) (plainFor_of_name pn_10) hw Z0 (fun m => ef_rmSU31 m a (1 : Int32)) ?_
  intro p e s m below meth c T C P
  refine k_aloadN (pc' := 1) C P d10_0 rfl rfl rfl ?_
  refine k_callV (pc' := 4) (cells' := 0) (slots' := 0) (W := 0) C P (C.w 54 rfl) (C.w 55 rfl) (fun _ q => notFace_of_selects (args := #[]) (mvT q (C.w 57 rfl))) (C.w 57 rfl) (C.w 56 rfl) (C.w 58 rfl) (C.w 5 rfl) (by decide) (rmLat1 l Z a0 hw _ n0 P.size a b F cs hcs SC) F.exa [] [] rfl (lenOf pd_12 rfl) rfl (Nat.le_of_eq rfl) d10_1 rfl (by decide) (by decide) rfl rfl (by decide) (by decide) all0 rfl ?_
  intro T197 h197 v197 P197 K197 Q197
  obtain ⟨e197, g197⟩ := Q197
  subst g197
  subst e197
  show KGo p e below _ T197 m 4 #[.val (.ref a), .val (.int (1 : Int32))] [(.int (0 : Int32))]
  refine k_ifY (pc' := 16) C P197 d10_4 k_01 (by decide) (by decide) ?_
  refine k_aloadN (pc' := 17) C P197 d10_16 rfl rfl rfl ?_
  refine k_getf (pc' := 20) C P197 (C.w 22 rfl) Via.refl F 1 rfl rfl d10_17 rfl ?_
  intro T198 P198
  refine k_iloadN (pc' := 21) C P198 d10_20 rfl rfl ?_
  refine k_callT (pc' := 24) (cells' := 0) (slots' := 0) (W := 0) C P198 (C.w 90 rfl) (C.w 91 rfl) (C.w 92 rfl) (C.w 41 rfl) (by decide) (rmUA31 l Z a0 hw _ n0 P198.size b kb f V x hx e0 e1 fv hfv SFm SA SH SL) [(.ref b), (.int (1 : Int32))] [] rfl (lenOf pd_7 rfl) rfl (Nat.le_of_eq rfl) d10_21 rfl (by decide) (by decide) rfl rfl (by decide) (by decide) all0 rfl ?_
  intro T199 h199 v199 P199 K199 Q199
  obtain ⟨e199, g199⟩ := Q199
  subst g199
  subst e199
  show KGo p e below _ T199 m 24 #[.val (.ref a), .val (.int (1 : Int32))] [(.int x)]
  exact k_retZ (z' := x) C P199 (by simp) d10_24 (own_nch hx) (by decide) (by decide) ⟨rfl, rfl⟩
theorem pn_5 : plainName "java/lang/String" = true := by first | (simp [plainName, overriddenIn]; done) | decide +kernel
theorem ef_rmLen (m : MethodId) (x0 : Addr) : entryFrame m #[(.ref x0)] 1 = mkF m 0 #[.val (.ref x0)] [] := by first | (simp [entryFrame, mkF, argsToLocals, Value.category]; done) | rfl
set_option maxRecDepth 65536 in
set_option maxHeartbeats 40000000 in
theorem rmLen (l : Launch) (Z : State) (a0 : Array Value) (hw : ∀ d ∈ tables_1, d.before a0 Z = true) (h0 : Heap) (n0 : Nat) (Z0 : n0 ≤ h0.size) (a b : Addr) (cd z r : Int32) (F : KOb Z h0 a "java/lang/String" layS [.int cd, .ref b]) (hcd : nar .byte cd = cd) (N : Nat) (kb : ClassId) (f : Nat → Value) (V : KVA Z h0 b kb .byte N f) (hz : z.toInt = (N : Int)) (hr : z >>> (cd &&& 31) = r) (cs : Int32) (hcs : ¬ cs = 0) (SC : Sta Z h0 "java/lang/String" "COMPACT_STRINGS" "Z" (.int cs)) :
    KCt false l (⟨"java/lang/String", "length", "()I"⟩ : MethodName) jdk_42_method_54_code 1 (some .int) ({ frames := 1, cells := 0, slots := 0, locals := 14 } : Room) Z n0 h0 #[(.ref a)] [] (fun v h => v = some (.int r) ∧ h0 = h) := by
  refine k_enter (tbl := tables_1) (a0 := a0) (Ls := #[.val (.ref a)]) (plainFor_of_name pn_5) hw Z0 (fun m => ef_rmLen m a) ?_
  intro p e s m below meth c T C P
  refine k_aloadN (pc' := 1) C P d5_0 rfl rfl rfl ?_
  refine k_getf (pc' := 4) C P (C.w 22 rfl) Via.refl F 1 rfl rfl d5_1 rfl ?_
  intro T200 P200
  refine k_arrlen (z := z) (pc' := 5) C P200 V d5_4 hz rfl ?_
  refine k_aloadN (pc' := 6) C P200 d5_5 rfl rfl rfl ?_
  refine k_callV (pc' := 9) (cells' := 0) (slots' := 0) (W := 1) C P200 (C.w 33 rfl) (C.w 34 rfl) (fun _ q => notFace_of_selects (args := #[]) (mvT q (C.w 36 rfl))) (C.w 36 rfl) (C.w 35 rfl) (C.w 37 rfl) (C.w 5 rfl) (by decide) (rmCd l Z a0 hw _ n0 P200.size a b cd F hcd cs hcs SC) F.exa [] [(.int z)] rfl (lenOf pd_13 rfl) rfl (Nat.le_of_eq rfl) d5_6 rfl (by decide) (by decide) rfl rfl (by decide) (by decide) all0 rfl ?_
  intro T201 h201 v201 P201 K201 Q201
  obtain ⟨e201, g201⟩ := Q201
  subst g201
  subst e201
  show KGo p e below _ T201 m 9 #[.val (.ref a)] [(.int cd), (.int z)]
  refine k_ishr (pc' := 10) C P201 d5_9 rfl ?_
  exact k_retI C P201 d5_10 (by decide) (by decide) ⟨by rw [hr], rfl⟩
theorem own_new1 (l : Launch) (Z : State) (a0 : Array Value) (hw : ∀ d ∈ tables_1, d.before a0 Z = true) (h0 : Heap) (n0 : Nat) (Z0 : n0 ≤ h0.size) (c0 : Int32) (hx0 : own_ch c0) (ca : Addr) (kc : ClassId) (VC : KVA Z h0 ca kc .char 1 (fun j => Value.int (c0))) (a : Addr) (ge_a : n0 ≤ a) (F : KOb Z h0 a "java/lang/String" layS [.int 0, .null]) (cs : Int32) (hcs : ¬ cs = 0) (SC : Sta Z h0 "java/lang/String" "COMPACT_STRINGS" "Z" (.int cs)) (SA : Sta Z h0 "java/lang/StringUTF16" "$assertionsDisabled" "Z" (.int 1)) (SH : Sta Z h0 "java/lang/StringUTF16" "HI_BYTE_SHIFT" "I" (.int 0)) (SL : Sta Z h0 "java/lang/StringUTF16" "LO_BYTE_SHIFT" "I" (.int 8)) :
    KCt false l (⟨"java/lang/String", "<init>", "([C)V"⟩ : MethodName) jdk_42_method_3_code 2 none ({ frames := 6, cells := 2, slots := 12, locals := 140 } : Room) Z n0 h0 #[(.ref a), (.ref ca)] [a] (fun v h => v = none ∧ own_S 1 Z h a (fun j => c0 : Nat → Int32)) := by
  by_cases q0 : 255 < c0
  · exact (rmUN_10 l Z a0 hw h0 n0 Z0 c0 hx0  q0 ca kc VC a ge_a F cs hcs SC SA SH SL).imp (fun v h ⟨e, b, kb, F', V'⟩ => ⟨e, Or.inr ⟨b, kb, _, F', V', fun j hj => by match j, hj with | 0, _ => exact ⟨rfl, rfl⟩⟩⟩)
  · exact (rmNew_1 l Z a0 hw h0 n0 Z0 c0 q0 ca kc VC a ge_a F cs hcs SC).imp (fun v h ⟨e, b, kb, F', V'⟩ => ⟨e, Or.inl ⟨b, kb, _, F', V', fun j hj => by match j, hj with | 0, _ => exact ⟨rfl, q0⟩⟩⟩)
theorem own_new2 (l : Launch) (Z : State) (a0 : Array Value) (hw : ∀ d ∈ tables_1, d.before a0 Z = true) (h0 : Heap) (n0 : Nat) (Z0 : n0 ≤ h0.size) (c0 c1 : Int32) (hx0 : own_ch c0) (hx1 : own_ch c1) (ca : Addr) (kc : ClassId) (VC : KVA Z h0 ca kc .char 2 (fun j => Value.int (if j = 0 then c0 else c1))) (a : Addr) (ge_a : n0 ≤ a) (F : KOb Z h0 a "java/lang/String" layS [.int 0, .null]) (cs : Int32) (hcs : ¬ cs = 0) (SC : Sta Z h0 "java/lang/String" "COMPACT_STRINGS" "Z" (.int cs)) (SA : Sta Z h0 "java/lang/StringUTF16" "$assertionsDisabled" "Z" (.int 1)) (SH : Sta Z h0 "java/lang/StringUTF16" "HI_BYTE_SHIFT" "I" (.int 0)) (SL : Sta Z h0 "java/lang/StringUTF16" "LO_BYTE_SHIFT" "I" (.int 8)) :
    KCt false l (⟨"java/lang/String", "<init>", "([C)V"⟩ : MethodName) jdk_42_method_3_code 2 none ({ frames := 6, cells := 2, slots := 12, locals := 140 } : Room) Z n0 h0 #[(.ref a), (.ref ca)] [a] (fun v h => v = none ∧ own_S 2 Z h a (fun j => if j = 0 then c0 else c1 : Nat → Int32)) := by
  by_cases q0 : 255 < c0
  · exact (rmUN_20 l Z a0 hw h0 n0 Z0 c0 c1 hx0  q0 ca kc VC a ge_a F cs hcs SC SA SH SL).imp (fun v h ⟨e, b, kb, F', V'⟩ => ⟨e, Or.inr ⟨b, kb, _, F', V', fun j hj => by match j, hj with | 0, _ => exact ⟨rfl, rfl⟩ | 1, _ => exact ⟨rfl, rfl⟩⟩⟩)
  · skip
    by_cases q1 : 255 < c1
    · exact (rmUN_21 l Z a0 hw h0 n0 Z0 c0 c1 hx1 q0 q1 ca kc VC a ge_a F cs hcs SC SA SH SL).imp (fun v h ⟨e, b, kb, F', V'⟩ => ⟨e, Or.inr ⟨b, kb, _, F', V', fun j hj => by match j, hj with | 0, _ => exact ⟨rfl, rfl⟩ | 1, _ => exact ⟨rfl, rfl⟩⟩⟩)
    · exact (rmNew_2 l Z a0 hw h0 n0 Z0 c0 c1 q0 q1 ca kc VC a ge_a F cs hcs SC).imp (fun v h ⟨e, b, kb, F', V'⟩ => ⟨e, Or.inl ⟨b, kb, _, F', V', fun j hj => by match j, hj with | 0, _ => exact ⟨rfl, q0⟩ | 1, _ => exact ⟨rfl, q1⟩⟩⟩)
theorem own_new3 (l : Launch) (Z : State) (a0 : Array Value) (hw : ∀ d ∈ tables_1, d.before a0 Z = true) (h0 : Heap) (n0 : Nat) (Z0 : n0 ≤ h0.size) (c0 c1 c2 : Int32) (hx0 : own_ch c0) (hx1 : own_ch c1) (hx2 : own_ch c2) (ca : Addr) (kc : ClassId) (VC : KVA Z h0 ca kc .char 3 (fun j => Value.int (if j = 0 then c0 else if j = 1 then c1 else c2))) (a : Addr) (ge_a : n0 ≤ a) (F : KOb Z h0 a "java/lang/String" layS [.int 0, .null]) (cs : Int32) (hcs : ¬ cs = 0) (SC : Sta Z h0 "java/lang/String" "COMPACT_STRINGS" "Z" (.int cs)) (SA : Sta Z h0 "java/lang/StringUTF16" "$assertionsDisabled" "Z" (.int 1)) (SH : Sta Z h0 "java/lang/StringUTF16" "HI_BYTE_SHIFT" "I" (.int 0)) (SL : Sta Z h0 "java/lang/StringUTF16" "LO_BYTE_SHIFT" "I" (.int 8)) :
    KCt false l (⟨"java/lang/String", "<init>", "([C)V"⟩ : MethodName) jdk_42_method_3_code 2 none ({ frames := 6, cells := 2, slots := 12, locals := 140 } : Room) Z n0 h0 #[(.ref a), (.ref ca)] [a] (fun v h => v = none ∧ own_S 3 Z h a (fun j => if j = 0 then c0 else if j = 1 then c1 else c2 : Nat → Int32)) := by
  by_cases q0 : 255 < c0
  · exact (rmUN_30 l Z a0 hw h0 n0 Z0 c0 c1 c2 hx0  q0 ca kc VC a ge_a F cs hcs SC SA SH SL).imp (fun v h ⟨e, b, kb, F', V'⟩ => ⟨e, Or.inr ⟨b, kb, _, F', V', fun j hj => by match j, hj with | 0, _ => exact ⟨rfl, rfl⟩ | 1, _ => exact ⟨rfl, rfl⟩ | 2, _ => exact ⟨rfl, rfl⟩⟩⟩)
  · skip
    by_cases q1 : 255 < c1
    · exact (rmUN_31 l Z a0 hw h0 n0 Z0 c0 c1 c2 hx1 q0 q1 ca kc VC a ge_a F cs hcs SC SA SH SL).imp (fun v h ⟨e, b, kb, F', V'⟩ => ⟨e, Or.inr ⟨b, kb, _, F', V', fun j hj => by match j, hj with | 0, _ => exact ⟨rfl, rfl⟩ | 1, _ => exact ⟨rfl, rfl⟩ | 2, _ => exact ⟨rfl, rfl⟩⟩⟩)
    · skip
      by_cases q2 : 255 < c2
      · exact (rmUN_32 l Z a0 hw h0 n0 Z0 c0 c1 c2 hx2 q0 q1 q2 ca kc VC a ge_a F cs hcs SC SA SH SL).imp (fun v h ⟨e, b, kb, F', V'⟩ => ⟨e, Or.inr ⟨b, kb, _, F', V', fun j hj => by match j, hj with | 0, _ => exact ⟨rfl, rfl⟩ | 1, _ => exact ⟨rfl, rfl⟩ | 2, _ => exact ⟨rfl, rfl⟩⟩⟩)
      · exact (rmNew_3 l Z a0 hw h0 n0 Z0 c0 c1 c2 q0 q1 q2 ca kc VC a ge_a F cs hcs SC).imp (fun v h ⟨e, b, kb, F', V'⟩ => ⟨e, Or.inl ⟨b, kb, _, F', V', fun j hj => by match j, hj with | 0, _ => exact ⟨rfl, q0⟩ | 1, _ => exact ⟨rfl, q1⟩ | 2, _ => exact ⟨rfl, q2⟩⟩⟩)
theorem own_len0 (l : Launch) (Z : State) (a0 : Array Value) (hw : ∀ d ∈ tables_1, d.before a0 Z = true) (h0 : Heap) (n0 : Nat) (Z0 : n0 ≤ h0.size) (a : Addr) (c : Nat → Int32) (O : own_S 0 Z h0 a c) (cs : Int32) (hcs : ¬ cs = 0) (SC : Sta Z h0 "java/lang/String" "COMPACT_STRINGS" "Z" (.int cs)) :
    KCt false l (⟨"java/lang/String", "length", "()I"⟩ : MethodName) jdk_42_method_54_code 1 (some .int) ({ frames := 1, cells := 0, slots := 0, locals := 14 } : Room) Z n0 h0 #[(.ref a)] [] (fun v h => v = some (.int 0) ∧ h0 = h) := by
  rcases O with ⟨b, kb, f, F, V, -⟩ | ⟨b, kb, f, F, V, -⟩
  · exact rmLen l Z a0 hw h0 n0 Z0 a b 0 0 0 F rfl 0 kb _ V rfl (by decide) cs hcs SC
  · exact rmLen l Z a0 hw h0 n0 Z0 a b 1 0 0 F rfl 0 kb _ V rfl (by decide) cs hcs SC
theorem own_len1 (l : Launch) (Z : State) (a0 : Array Value) (hw : ∀ d ∈ tables_1, d.before a0 Z = true) (h0 : Heap) (n0 : Nat) (Z0 : n0 ≤ h0.size) (a : Addr) (c : Nat → Int32) (O : own_S 1 Z h0 a c) (cs : Int32) (hcs : ¬ cs = 0) (SC : Sta Z h0 "java/lang/String" "COMPACT_STRINGS" "Z" (.int cs)) :
    KCt false l (⟨"java/lang/String", "length", "()I"⟩ : MethodName) jdk_42_method_54_code 1 (some .int) ({ frames := 1, cells := 0, slots := 0, locals := 14 } : Room) Z n0 h0 #[(.ref a)] [] (fun v h => v = some (.int 1) ∧ h0 = h) := by
  rcases O with ⟨b, kb, f, F, V, -⟩ | ⟨b, kb, f, F, V, -⟩
  · exact rmLen l Z a0 hw h0 n0 Z0 a b 0 1 1 F rfl 1 kb _ V rfl (by decide) cs hcs SC
  · exact rmLen l Z a0 hw h0 n0 Z0 a b 1 2 1 F rfl 2 kb _ V rfl (by decide) cs hcs SC
theorem own_len2 (l : Launch) (Z : State) (a0 : Array Value) (hw : ∀ d ∈ tables_1, d.before a0 Z = true) (h0 : Heap) (n0 : Nat) (Z0 : n0 ≤ h0.size) (a : Addr) (c : Nat → Int32) (O : own_S 2 Z h0 a c) (cs : Int32) (hcs : ¬ cs = 0) (SC : Sta Z h0 "java/lang/String" "COMPACT_STRINGS" "Z" (.int cs)) :
    KCt false l (⟨"java/lang/String", "length", "()I"⟩ : MethodName) jdk_42_method_54_code 1 (some .int) ({ frames := 1, cells := 0, slots := 0, locals := 14 } : Room) Z n0 h0 #[(.ref a)] [] (fun v h => v = some (.int 2) ∧ h0 = h) := by
  rcases O with ⟨b, kb, f, F, V, -⟩ | ⟨b, kb, f, F, V, -⟩
  · exact rmLen l Z a0 hw h0 n0 Z0 a b 0 2 2 F rfl 2 kb _ V rfl (by decide) cs hcs SC
  · exact rmLen l Z a0 hw h0 n0 Z0 a b 1 4 2 F rfl 4 kb _ V rfl (by decide) cs hcs SC
theorem own_len3 (l : Launch) (Z : State) (a0 : Array Value) (hw : ∀ d ∈ tables_1, d.before a0 Z = true) (h0 : Heap) (n0 : Nat) (Z0 : n0 ≤ h0.size) (a : Addr) (c : Nat → Int32) (O : own_S 3 Z h0 a c) (cs : Int32) (hcs : ¬ cs = 0) (SC : Sta Z h0 "java/lang/String" "COMPACT_STRINGS" "Z" (.int cs)) :
    KCt false l (⟨"java/lang/String", "length", "()I"⟩ : MethodName) jdk_42_method_54_code 1 (some .int) ({ frames := 1, cells := 0, slots := 0, locals := 14 } : Room) Z n0 h0 #[(.ref a)] [] (fun v h => v = some (.int 3) ∧ h0 = h) := by
  rcases O with ⟨b, kb, f, F, V, -⟩ | ⟨b, kb, f, F, V, -⟩
  · exact rmLen l Z a0 hw h0 n0 Z0 a b 0 3 3 F rfl 3 kb _ V rfl (by decide) cs hcs SC
  · exact rmLen l Z a0 hw h0 n0 Z0 a b 1 6 3 F rfl 6 kb _ V rfl (by decide) cs hcs SC
theorem own_chr20 (l : Launch) (Z : State) (a0 : Array Value) (hw : ∀ d ∈ tables_1, d.before a0 Z = true) (h0 : Heap) (n0 : Nat) (Z0 : n0 ≤ h0.size) (a : Addr) (c : Nat → Int32) (O : own_S 2 Z h0 a c) (hx : own_ch (c 0)) (cs : Int32) (hcs : ¬ cs = 0) (SC : Sta Z h0 "java/lang/String" "COMPACT_STRINGS" "Z" (.int cs)) (fv : Value) (hfv : fv.isRef = true) (SFm : Sta Z h0 "jdk/internal/util/Preconditions" "SIOOBE_FORMATTER" "Ljava/util/function/BiFunction;" fv) (SA : Sta Z h0 "java/lang/StringUTF16" "$assertionsDisabled" "Z" (.int 1)) (SH : Sta Z h0 "java/lang/StringUTF16" "HI_BYTE_SHIFT" "I" (.int 0)) (SL : Sta Z h0 "java/lang/StringUTF16" "LO_BYTE_SHIFT" "I" (.int 8)) :
    KCt false l (⟨"java/lang/String", "charAt", "(I)C"⟩ : MethodName) jdk_42_method_56_code 2 (some .char) ({ frames := 4, cells := 0, slots := 0, locals := 80 } : Room) Z n0 h0 #[(.ref a), (.int (0 : Int32))] [] (fun v h => v = some (.int (c 0)) ∧ h0 = h) := by
  rcases O with ⟨b, kb, f, F, V, q⟩ | ⟨b, kb, f, F, V, q⟩
  · exact rmSA20 l Z a0 hw h0 n0 Z0 a b F kb f V (c 0) (q 0 (by decide)).1 hx (q 0 (by decide)).2 cs hcs SC fv hfv SFm SA SH SL
  · exact rmSU20 l Z a0 hw h0 n0 Z0 a b F kb f V (c 0) hx (q 0 (by decide)).1 (q 0 (by decide)).2 cs hcs SC fv hfv SFm SA SH SL
theorem own_chr21 (l : Launch) (Z : State) (a0 : Array Value) (hw : ∀ d ∈ tables_1, d.before a0 Z = true) (h0 : Heap) (n0 : Nat) (Z0 : n0 ≤ h0.size) (a : Addr) (c : Nat → Int32) (O : own_S 2 Z h0 a c) (hx : own_ch (c 1)) (cs : Int32) (hcs : ¬ cs = 0) (SC : Sta Z h0 "java/lang/String" "COMPACT_STRINGS" "Z" (.int cs)) (fv : Value) (hfv : fv.isRef = true) (SFm : Sta Z h0 "jdk/internal/util/Preconditions" "SIOOBE_FORMATTER" "Ljava/util/function/BiFunction;" fv) (SA : Sta Z h0 "java/lang/StringUTF16" "$assertionsDisabled" "Z" (.int 1)) (SH : Sta Z h0 "java/lang/StringUTF16" "HI_BYTE_SHIFT" "I" (.int 0)) (SL : Sta Z h0 "java/lang/StringUTF16" "LO_BYTE_SHIFT" "I" (.int 8)) :
    KCt false l (⟨"java/lang/String", "charAt", "(I)C"⟩ : MethodName) jdk_42_method_56_code 2 (some .char) ({ frames := 4, cells := 0, slots := 0, locals := 80 } : Room) Z n0 h0 #[(.ref a), (.int (1 : Int32))] [] (fun v h => v = some (.int (c 1)) ∧ h0 = h) := by
  rcases O with ⟨b, kb, f, F, V, q⟩ | ⟨b, kb, f, F, V, q⟩
  · exact rmSA21 l Z a0 hw h0 n0 Z0 a b F kb f V (c 1) (q 1 (by decide)).1 hx (q 1 (by decide)).2 cs hcs SC fv hfv SFm SA SH SL
  · exact rmSU21 l Z a0 hw h0 n0 Z0 a b F kb f V (c 1) hx (q 1 (by decide)).1 (q 1 (by decide)).2 cs hcs SC fv hfv SFm SA SH SL
theorem own_chr30 (l : Launch) (Z : State) (a0 : Array Value) (hw : ∀ d ∈ tables_1, d.before a0 Z = true) (h0 : Heap) (n0 : Nat) (Z0 : n0 ≤ h0.size) (a : Addr) (c : Nat → Int32) (O : own_S 3 Z h0 a c) (hx : own_ch (c 0)) (cs : Int32) (hcs : ¬ cs = 0) (SC : Sta Z h0 "java/lang/String" "COMPACT_STRINGS" "Z" (.int cs)) (fv : Value) (hfv : fv.isRef = true) (SFm : Sta Z h0 "jdk/internal/util/Preconditions" "SIOOBE_FORMATTER" "Ljava/util/function/BiFunction;" fv) (SA : Sta Z h0 "java/lang/StringUTF16" "$assertionsDisabled" "Z" (.int 1)) (SH : Sta Z h0 "java/lang/StringUTF16" "HI_BYTE_SHIFT" "I" (.int 0)) (SL : Sta Z h0 "java/lang/StringUTF16" "LO_BYTE_SHIFT" "I" (.int 8)) :
    KCt false l (⟨"java/lang/String", "charAt", "(I)C"⟩ : MethodName) jdk_42_method_56_code 2 (some .char) ({ frames := 4, cells := 0, slots := 0, locals := 80 } : Room) Z n0 h0 #[(.ref a), (.int (0 : Int32))] [] (fun v h => v = some (.int (c 0)) ∧ h0 = h) := by
  rcases O with ⟨b, kb, f, F, V, q⟩ | ⟨b, kb, f, F, V, q⟩
  · exact rmSA30 l Z a0 hw h0 n0 Z0 a b F kb f V (c 0) (q 0 (by decide)).1 hx (q 0 (by decide)).2 cs hcs SC fv hfv SFm SA SH SL
  · exact rmSU30 l Z a0 hw h0 n0 Z0 a b F kb f V (c 0) hx (q 0 (by decide)).1 (q 0 (by decide)).2 cs hcs SC fv hfv SFm SA SH SL
theorem own_chr31 (l : Launch) (Z : State) (a0 : Array Value) (hw : ∀ d ∈ tables_1, d.before a0 Z = true) (h0 : Heap) (n0 : Nat) (Z0 : n0 ≤ h0.size) (a : Addr) (c : Nat → Int32) (O : own_S 3 Z h0 a c) (hx : own_ch (c 1)) (cs : Int32) (hcs : ¬ cs = 0) (SC : Sta Z h0 "java/lang/String" "COMPACT_STRINGS" "Z" (.int cs)) (fv : Value) (hfv : fv.isRef = true) (SFm : Sta Z h0 "jdk/internal/util/Preconditions" "SIOOBE_FORMATTER" "Ljava/util/function/BiFunction;" fv) (SA : Sta Z h0 "java/lang/StringUTF16" "$assertionsDisabled" "Z" (.int 1)) (SH : Sta Z h0 "java/lang/StringUTF16" "HI_BYTE_SHIFT" "I" (.int 0)) (SL : Sta Z h0 "java/lang/StringUTF16" "LO_BYTE_SHIFT" "I" (.int 8)) :
    KCt false l (⟨"java/lang/String", "charAt", "(I)C"⟩ : MethodName) jdk_42_method_56_code 2 (some .char) ({ frames := 4, cells := 0, slots := 0, locals := 80 } : Room) Z n0 h0 #[(.ref a), (.int (1 : Int32))] [] (fun v h => v = some (.int (c 1)) ∧ h0 = h) := by
  rcases O with ⟨b, kb, f, F, V, q⟩ | ⟨b, kb, f, F, V, q⟩
  · exact rmSA31 l Z a0 hw h0 n0 Z0 a b F kb f V (c 1) (q 1 (by decide)).1 hx (q 1 (by decide)).2 cs hcs SC fv hfv SFm SA SH SL
  · exact rmSU31 l Z a0 hw h0 n0 Z0 a b F kb f V (c 1) hx (q 1 (by decide)).1 (q 1 (by decide)).2 cs hcs SC fv hfv SFm SA SH SL
theorem pn_4 : plainName "com/example/grantline/grantline/permission/PathSyntax" = true := by first | (simp [plainName, overriddenIn]; done) | decide +kernel
theorem ef_rmD0 (m : MethodId) (x0 : Addr) : entryFrame m #[(.ref x0)] 2 = mkF m 0 #[.val (.ref x0), .unset] [] := by first | (simp [entryFrame, mkF, argsToLocals, Value.category]; done) | rfl
set_option maxRecDepth 65536 in
set_option maxHeartbeats 40000000 in
theorem rmD0 (l : Launch) (Z : State) (a0 : Array Value) (hw : ∀ d ∈ tables_1, d.before a0 Z = true) (h0 : Heap) (n0 : Nat) (Z0 : n0 ≤ h0.size) (a : Addr) (O : own_S 0 Z h0 a (fun _ => 0 : Nat → Int32)) (cs : Int32) (hcs : ¬ cs = 0) (SC : Sta Z h0 "java/lang/String" "COMPACT_STRINGS" "Z" (.int cs)) (fv : Value) (hfv : fv.isRef = true) (SFm : Sta Z h0 "jdk/internal/util/Preconditions" "SIOOBE_FORMATTER" "Ljava/util/function/BiFunction;" fv) (SA : Sta Z h0 "java/lang/StringUTF16" "$assertionsDisabled" "Z" (.int 1)) (SH : Sta Z h0 "java/lang/StringUTF16" "HI_BYTE_SHIFT" "I" (.int 0)) (SL : Sta Z h0 "java/lang/StringUTF16" "LO_BYTE_SHIFT" "I" (.int 8)) :
    KCt false l (⟨"com/example/grantline/grantline/permission/PathSyntax", "startsWithDrive", "(Ljava/lang/String;)Z"⟩ : MethodName) prog_30_method_9_code 2 (some .boolean) ({ frames := 5, cells := 0, slots := 0, locals := 110 } : Room) Z n0 h0 #[(.ref a)] [] (fun v h => v = some (.int 0) ∧ h0 = h) := by
  refine k_enter (tbl := tables_1) (a0 := a0) (Ls := #[.val (.ref a), .unset]) (plainFor_of_name pn_4) hw Z0 (fun m => ef_rmD0 m a) ?_
  intro p e s m below meth c T C P
  refine k_aloadN (pc' := 1) C P d4_0 rfl rfl rfl ?_
  refine k_callV (pc' := 4) (cells' := 0) (slots' := 0) (W := 0) C P (C.w 28 rfl) (C.w 29 rfl) (fun _ q => notFace_of_selects (args := #[]) (mvT q (C.w 31 rfl))) (C.w 31 rfl) (C.w 30 rfl) (C.w 32 rfl) (C.w 5 rfl) (by decide) (own_len0 l Z a0 hw _ n0 P.size a _ O cs hcs SC) O.exa [] [] rfl (lenOf pd_14 rfl) rfl (Nat.le_of_eq rfl) d4_1 rfl (by decide) (by decide) rfl rfl (by decide) (by decide) all0 rfl ?_
  intro T202 h202 v202 P202 K202 Q202
  obtain ⟨e202, g202⟩ := Q202
  subst g202
  subst e202
  show KGo p e below _ T202 m 4 #[.val (.ref a), .unset] [(.int (0 : Int32))]
  refine k_iconst (z := (2 : Int32)) (pc' := 5) C P202 d4_4 rfl rfl ?_
  refine k_icY (pc' := 18) C P202 d4_5 (show (0 : Int32) < (2 : Int32) by decide) (by decide) (by decide) ?_
  refine k_iconst (z := (0 : Int32)) (pc' := 19) C P202 d4_18 rfl rfl ?_
  exact k_retZ (z' := (0 : Int32)) C P202 (by simp) d4_19 rfl (by decide) (by decide) ⟨rfl, rfl⟩
theorem ef_rmD1 (m : MethodId) (x0 : Addr) : entryFrame m #[(.ref x0)] 2 = mkF m 0 #[.val (.ref x0), .unset] [] := by first | (simp [entryFrame, mkF, argsToLocals, Value.category]; done) | rfl
set_option maxRecDepth 65536 in
set_option maxHeartbeats 40000000 in
theorem rmD1 (l : Launch) (Z : State) (a0 : Array Value) (hw : ∀ d ∈ tables_1, d.before a0 Z = true) (h0 : Heap) (n0 : Nat) (Z0 : n0 ≤ h0.size) (c0 : Int32) (hx0 : own_ch c0) (a : Addr) (O : own_S 1 Z h0 a (fun j => c0 : Nat → Int32)) (cs : Int32) (hcs : ¬ cs = 0) (SC : Sta Z h0 "java/lang/String" "COMPACT_STRINGS" "Z" (.int cs)) (fv : Value) (hfv : fv.isRef = true) (SFm : Sta Z h0 "jdk/internal/util/Preconditions" "SIOOBE_FORMATTER" "Ljava/util/function/BiFunction;" fv) (SA : Sta Z h0 "java/lang/StringUTF16" "$assertionsDisabled" "Z" (.int 1)) (SH : Sta Z h0 "java/lang/StringUTF16" "HI_BYTE_SHIFT" "I" (.int 0)) (SL : Sta Z h0 "java/lang/StringUTF16" "LO_BYTE_SHIFT" "I" (.int 8)) :
    KCt false l (⟨"com/example/grantline/grantline/permission/PathSyntax", "startsWithDrive", "(Ljava/lang/String;)Z"⟩ : MethodName) prog_30_method_9_code 2 (some .boolean) ({ frames := 5, cells := 0, slots := 0, locals := 110 } : Room) Z n0 h0 #[(.ref a)] [] (fun v h => v = some (.int 0) ∧ h0 = h) := by
  refine k_enter (tbl := tables_1) (a0 := a0) (Ls := #[.val (.ref a), .unset]) (plainFor_of_name pn_4) hw Z0 (fun m => ef_rmD1 m a) ?_
  intro p e s m below meth c T C P
  refine k_aloadN (pc' := 1) C P d4_0 rfl rfl rfl ?_
  refine k_callV (pc' := 4) (cells' := 0) (slots' := 0) (W := 0) C P (C.w 28 rfl) (C.w 29 rfl) (fun _ q => notFace_of_selects (args := #[]) (mvT q (C.w 31 rfl))) (C.w 31 rfl) (C.w 30 rfl) (C.w 32 rfl) (C.w 5 rfl) (by decide) (own_len1 l Z a0 hw _ n0 P.size a _ O cs hcs SC) O.exa [] [] rfl (lenOf pd_14 rfl) rfl (Nat.le_of_eq rfl) d4_1 rfl (by decide) (by decide) rfl rfl (by decide) (by decide) all0 rfl ?_
  intro T203 h203 v203 P203 K203 Q203
  obtain ⟨e203, g203⟩ := Q203
  subst g203
  subst e203
  show KGo p e below _ T203 m 4 #[.val (.ref a), .unset] [(.int (1 : Int32))]
  refine k_iconst (z := (2 : Int32)) (pc' := 5) C P203 d4_4 rfl rfl ?_
  refine k_icY (pc' := 18) C P203 d4_5 (show (1 : Int32) < (2 : Int32) by decide) (by decide) (by decide) ?_
  refine k_iconst (z := (0 : Int32)) (pc' := 19) C P203 d4_18 rfl rfl ?_
  exact k_retZ (z' := (0 : Int32)) C P203 (by simp) d4_19 rfl (by decide) (by decide) ⟨rfl, rfl⟩
theorem ef_rmD2 (m : MethodId) (x0 : Addr) : entryFrame m #[(.ref x0)] 2 = mkF m 0 #[.val (.ref x0), .unset] [] := by first | (simp [entryFrame, mkF, argsToLocals, Value.category]; done) | rfl
set_option maxRecDepth 65536 in
set_option maxHeartbeats 40000000 in
theorem rmD2 (l : Launch) (Z : State) (a0 : Array Value) (hw : ∀ d ∈ tables_1, d.before a0 Z = true) (h0 : Heap) (n0 : Nat) (Z0 : n0 ≤ h0.size) (c0 c1 : Int32) (hx0 : own_ch c0) (hx1 : own_ch c1) (a : Addr) (O : own_S 2 Z h0 a (fun j => if j = 0 then c0 else c1 : Nat → Int32)) (cs : Int32) (hcs : ¬ cs = 0) (SC : Sta Z h0 "java/lang/String" "COMPACT_STRINGS" "Z" (.int cs)) (fv : Value) (hfv : fv.isRef = true) (SFm : Sta Z h0 "jdk/internal/util/Preconditions" "SIOOBE_FORMATTER" "Ljava/util/function/BiFunction;" fv) (SA : Sta Z h0 "java/lang/StringUTF16" "$assertionsDisabled" "Z" (.int 1)) (SH : Sta Z h0 "java/lang/StringUTF16" "HI_BYTE_SHIFT" "I" (.int 0)) (SL : Sta Z h0 "java/lang/StringUTF16" "LO_BYTE_SHIFT" "I" (.int 8)) :
    KCt false l (⟨"com/example/grantline/grantline/permission/PathSyntax", "startsWithDrive", "(Ljava/lang/String;)Z"⟩ : MethodName) prog_30_method_9_code 2 (some .boolean) ({ frames := 5, cells := 0, slots := 0, locals := 110 } : Room) Z n0 h0 #[(.ref a)] [] (fun v h => v = some (.int (if c1 = 58 ∧ ((¬ c0 < (97 : Int32) ∧ ¬ (122 : Int32) < c0) ∨ (¬ c0 < (65 : Int32) ∧ ¬ (90 : Int32) < c0)) then 1 else 0)) ∧ h0 = h) := by
  refine k_enter (tbl := tables_1) (a0 := a0) (Ls := #[.val (.ref a), .unset]) (plainFor_of_name pn_4) hw Z0 (fun m => ef_rmD2 m a) ?_
  intro p e s m below meth c T C P
  refine k_aloadN (pc' := 1) C P d4_0 rfl rfl rfl ?_
  refine k_callV (pc' := 4) (cells' := 0) (slots' := 0) (W := 0) C P (C.w 28 rfl) (C.w 29 rfl) (fun _ q => notFace_of_selects (args := #[]) (mvT q (C.w 31 rfl))) (C.w 31 rfl) (C.w 30 rfl) (C.w 32 rfl) (C.w 5 rfl) (by decide) (own_len2 l Z a0 hw _ n0 P.size a _ O cs hcs SC) O.exa [] [] rfl (lenOf pd_14 rfl) rfl (Nat.le_of_eq rfl) d4_1 rfl (by decide) (by decide) rfl rfl (by decide) (by decide) all0 rfl ?_
  intro T204 h204 v204 P204 K204 Q204
  obtain ⟨e204, g204⟩ := Q204
  subst g204
  subst e204
  show KGo p e below _ T204 m 4 #[.val (.ref a), .unset] [(.int (2 : Int32))]
  refine k_iconst (z := (2 : Int32)) (pc' := 5) C P204 d4_4 rfl rfl ?_
  refine k_icN (pc' := 8) C P204 d4_5 (show ¬ (2 : Int32) < (2 : Int32) by decide) rfl ?_
  refine k_aloadN (pc' := 9) C P204 d4_8 rfl rfl rfl ?_
  refine k_iconst (z := (1 : Int32)) (pc' := 10) C P204 d4_9 rfl rfl ?_
  refine k_callV (pc' := 13) (cells' := 0) (slots' := 0) (W := 0) C P204 (C.w 49 rfl) (C.w 50 rfl) (fun _ q => notFace_of_selects (args := #[]) (mvT q (C.w 52 rfl))) (C.w 52 rfl) (C.w 51 rfl) (C.w 53 rfl) (C.w 5 rfl) (by decide) (own_chr21 l Z a0 hw _ n0 P204.size a (fun j => if j = 0 then c0 else c1 : Nat → Int32) O hx1 cs hcs SC fv hfv SFm SA SH SL) O.exa [(.int (1 : Int32))] [] rfl (lenOf pd_15 rfl) rfl (Nat.le_of_eq rfl) d4_10 rfl (by decide) (by decide) rfl rfl (by decide) (by decide) all0 rfl ?_
  intro T205 h205 v205 P205 K205 Q205
  obtain ⟨e205, g205⟩ := Q205
  subst g205
  subst e205
  show KGo p e below _ T205 m 13 #[.val (.ref a), .unset] [(.int c1)]
  refine k_bipush (z := (58 : Int32)) (pc' := 15) C P205 d4_13 rfl rfl ?_
  refine k_icB (pcY := 20) (pcN := 18) C P205 d4_15 (by decide) (by decide) rfl ?_ ?_
  · intro (hc15 : c1 = (58 : Int32))
    refine k_aloadN (pc' := 21) C P205 d4_20 rfl rfl rfl ?_
    refine k_iconst (z := (0 : Int32)) (pc' := 22) C P205 d4_21 rfl rfl ?_
    refine k_callV (pc' := 25) (cells' := 0) (slots' := 0) (W := 0) C P205 (C.w 49 rfl) (C.w 50 rfl) (fun _ q => notFace_of_selects (args := #[]) (mvT q (C.w 52 rfl))) (C.w 52 rfl) (C.w 51 rfl) (C.w 53 rfl) (C.w 5 rfl) (by decide) (own_chr20 l Z a0 hw _ n0 P205.size a (fun j => if j = 0 then c0 else c1 : Nat → Int32) O hx0 cs hcs SC fv hfv SFm SA SH SL) O.exa [(.int (0 : Int32))] [] rfl (lenOf pd_15 rfl) rfl (Nat.le_of_eq rfl) d4_22 rfl (by decide) (by decide) rfl rfl (by decide) (by decide) all0 rfl ?_
    intro T206 h206 v206 P206 K206 Q206
    obtain ⟨e206, g206⟩ := Q206
    subst g206
    subst e206
    show KGo p e below _ T206 m 25 #[.val (.ref a), .unset] [(.int c0)]
    refine k_istoreN (l' := #[.val (.ref a), .val (.int c0)]) (pc' := 26) C P206 d4_25 rfl rfl ?_
    refine k_iloadN (pc' := 27) C P206 d4_26 rfl rfl ?_
    refine k_bipush (z := (97 : Int32)) (pc' := 29) C P206 d4_27 rfl rfl ?_
    refine k_icB (pcY := 38) (pcN := 32) C P206 d4_29 (by decide) (by decide) rfl ?_ ?_
    · intro (hc29 : c0 < (97 : Int32))
      refine k_iloadN (pc' := 39) C P206 d4_38 rfl rfl ?_
      refine k_bipush (z := (65 : Int32)) (pc' := 41) C P206 d4_39 rfl rfl ?_
      refine k_icB (pcY := 54) (pcN := 44) C P206 d4_41 (by decide) (by decide) rfl ?_ ?_
      · intro (hc41 : c0 < (65 : Int32))
        refine k_iconst (z := (0 : Int32)) (pc' := 55) C P206 d4_54 rfl rfl ?_
        exact k_retZ (z' := (0 : Int32)) C P206 (by simp) d4_55 rfl (by decide) (by decide) ⟨by rw [if_neg (fun q => q.2.elim (fun q => q.1 hc29) (fun r => r.1 hc41))], rfl⟩
      · intro (hc41 : ¬ c0 < (65 : Int32))
        refine k_iloadN (pc' := 45) C P206 d4_44 rfl rfl ?_
        refine k_bipush (z := (90 : Int32)) (pc' := 47) C P206 d4_45 rfl rfl ?_
        refine k_icB (pcY := 54) (pcN := 50) C P206 d4_47 (by decide) (by decide) rfl ?_ ?_
        · intro (hc47 : (90 : Int32) < c0)
          refine k_iconst (z := (0 : Int32)) (pc' := 55) C P206 d4_54 rfl rfl ?_
          exact k_retZ (z' := (0 : Int32)) C P206 (by simp) d4_55 rfl (by decide) (by decide) ⟨by rw [if_neg (fun q => q.2.elim (fun q => q.1 hc29) (fun r => r.2 hc47))], rfl⟩
        · intro (hc47 : ¬ (90 : Int32) < c0)
          refine k_iconst (z := (1 : Int32)) (pc' := 51) C P206 d4_50 rfl rfl ?_
          refine k_goto (pc' := 55) C P206 d4_51 (by decide) (by decide) ?_
          exact k_retZ (z' := (1 : Int32)) C P206 (by simp) d4_55 rfl (by decide) (by decide) ⟨by rw [if_pos ⟨hc15, Or.inr ⟨hc41, hc47⟩⟩], rfl⟩
    · intro (hc29 : ¬ c0 < (97 : Int32))
      refine k_iloadN (pc' := 33) C P206 d4_32 rfl rfl ?_
      refine k_bipush (z := (122 : Int32)) (pc' := 35) C P206 d4_33 rfl rfl ?_
      refine k_icB (pcY := 50) (pcN := 38) C P206 d4_35 (by decide) (by decide) rfl ?_ ?_
      · intro (hc35 : ¬ (122 : Int32) < c0)
        refine k_iconst (z := (1 : Int32)) (pc' := 51) C P206 d4_50 rfl rfl ?_
        refine k_goto (pc' := 55) C P206 d4_51 (by decide) (by decide) ?_
        exact k_retZ (z' := (1 : Int32)) C P206 (by simp) d4_55 rfl (by decide) (by decide) ⟨by rw [if_pos ⟨hc15, Or.inl ⟨hc29, hc35⟩⟩], rfl⟩
      · intro (hc35 : (122 : Int32) < c0)
        refine k_iloadN (pc' := 39) C P206 d4_38 rfl rfl ?_
        refine k_bipush (z := (65 : Int32)) (pc' := 41) C P206 d4_39 rfl rfl ?_
        refine k_icB (pcY := 54) (pcN := 44) C P206 d4_41 (by decide) (by decide) rfl ?_ ?_
        · intro (hc41 : c0 < (65 : Int32))
          refine k_iconst (z := (0 : Int32)) (pc' := 55) C P206 d4_54 rfl rfl ?_
          exact k_retZ (z' := (0 : Int32)) C P206 (by simp) d4_55 rfl (by decide) (by decide) ⟨by rw [if_neg (fun q => q.2.elim (fun q => q.2 hc35) (fun r => r.1 hc41))], rfl⟩
        · intro (hc41 : ¬ c0 < (65 : Int32))
          refine k_iloadN (pc' := 45) C P206 d4_44 rfl rfl ?_
          refine k_bipush (z := (90 : Int32)) (pc' := 47) C P206 d4_45 rfl rfl ?_
          refine k_icB (pcY := 54) (pcN := 50) C P206 d4_47 (by decide) (by decide) rfl ?_ ?_
          · intro (hc47 : (90 : Int32) < c0)
            refine k_iconst (z := (0 : Int32)) (pc' := 55) C P206 d4_54 rfl rfl ?_
            exact k_retZ (z' := (0 : Int32)) C P206 (by simp) d4_55 rfl (by decide) (by decide) ⟨by rw [if_neg (fun q => q.2.elim (fun q => q.2 hc35) (fun r => r.2 hc47))], rfl⟩
          · intro (hc47 : ¬ (90 : Int32) < c0)
            refine k_iconst (z := (1 : Int32)) (pc' := 51) C P206 d4_50 rfl rfl ?_
            refine k_goto (pc' := 55) C P206 d4_51 (by decide) (by decide) ?_
            exact k_retZ (z' := (1 : Int32)) C P206 (by simp) d4_55 rfl (by decide) (by decide) ⟨by rw [if_pos ⟨hc15, Or.inr ⟨hc41, hc47⟩⟩], rfl⟩
  · intro (hc15 : ¬ c1 = (58 : Int32))
    refine k_iconst (z := (0 : Int32)) (pc' := 19) C P205 d4_18 rfl rfl ?_
    exact k_retZ (z' := (0 : Int32)) C P205 (by simp) d4_19 rfl (by decide) (by decide) ⟨by rw [if_neg (fun q => hc15 q.1)], rfl⟩
theorem ef_rmD3 (m : MethodId) (x0 : Addr) : entryFrame m #[(.ref x0)] 2 = mkF m 0 #[.val (.ref x0), .unset] [] := by first | (simp [entryFrame, mkF, argsToLocals, Value.category]; done) | rfl
set_option maxRecDepth 65536 in
set_option maxHeartbeats 40000000 in
theorem rmD3 (l : Launch) (Z : State) (a0 : Array Value) (hw : ∀ d ∈ tables_1, d.before a0 Z = true) (h0 : Heap) (n0 : Nat) (Z0 : n0 ≤ h0.size) (c0 c1 c2 : Int32) (hx0 : own_ch c0) (hx1 : own_ch c1) (hx2 : own_ch c2) (a : Addr) (O : own_S 3 Z h0 a (fun j => if j = 0 then c0 else if j = 1 then c1 else c2 : Nat → Int32)) (cs : Int32) (hcs : ¬ cs = 0) (SC : Sta Z h0 "java/lang/String" "COMPACT_STRINGS" "Z" (.int cs)) (fv : Value) (hfv : fv.isRef = true) (SFm : Sta Z h0 "jdk/internal/util/Preconditions" "SIOOBE_FORMATTER" "Ljava/util/function/BiFunction;" fv) (SA : Sta Z h0 "java/lang/StringUTF16" "$assertionsDisabled" "Z" (.int 1)) (SH : Sta Z h0 "java/lang/StringUTF16" "HI_BYTE_SHIFT" "I" (.int 0)) (SL : Sta Z h0 "java/lang/StringUTF16" "LO_BYTE_SHIFT" "I" (.int 8)) :
    KCt false l (⟨"com/example/grantline/grantline/permission/PathSyntax", "startsWithDrive", "(Ljava/lang/String;)Z"⟩ : MethodName) prog_30_method_9_code 2 (some .boolean) ({ frames := 5, cells := 0, slots := 0, locals := 110 } : Room) Z n0 h0 #[(.ref a)] [] (fun v h => v = some (.int (if c1 = 58 ∧ ((¬ c0 < (97 : Int32) ∧ ¬ (122 : Int32) < c0) ∨ (¬ c0 < (65 : Int32) ∧ ¬ (90 : Int32) < c0)) then 1 else 0)) ∧ h0 = h) := by
  refine k_enter (tbl := tables_1) (a0 := a0) (Ls := #[.val (.ref a), .unset]) (plainFor_of_name pn_4) hw Z0 (fun m => ef_rmD3 m a) ?_
  intro p e s m below meth c T C P
  refine k_aloadN (pc' := 1) C P d4_0 rfl rfl rfl ?_
  refine k_callV (pc' := 4) (cells' := 0) (slots' := 0) (W := 0) C P (C.w 28 rfl) (C.w 29 rfl) (fun _ q => notFace_of_selects (args := #[]) (mvT q (C.w 31 rfl))) (C.w 31 rfl) (C.w 30 rfl) (C.w 32 rfl) (C.w 5 rfl) (by decide) (own_len3 l Z a0 hw _ n0 P.size a _ O cs hcs SC) O.exa [] [] rfl (lenOf pd_14 rfl) rfl (Nat.le_of_eq rfl) d4_1 rfl (by decide) (by decide) rfl rfl (by decide) (by decide) all0 rfl ?_
  intro T207 h207 v207 P207 K207 Q207
  obtain ⟨e207, g207⟩ := Q207
  subst g207
  subst e207
  show KGo p e below _ T207 m 4 #[.val (.ref a), .unset] [(.int (3 : Int32))]
  refine k_iconst (z := (2 : Int32)) (pc' := 5) C P207 d4_4 rfl rfl ?_
  refine k_icN (pc' := 8) C P207 d4_5 (show ¬ (3 : Int32) < (2 : Int32) by decide) rfl ?_
  refine k_aloadN (pc' := 9) C P207 d4_8 rfl rfl rfl ?_
  refine k_iconst (z := (1 : Int32)) (pc' := 10) C P207 d4_9 rfl rfl ?_
  refine k_callV (pc' := 13) (cells' := 0) (slots' := 0) (W := 0) C P207 (C.w 49 rfl) (C.w 50 rfl) (fun _ q => notFace_of_selects (args := #[]) (mvT q (C.w 52 rfl))) (C.w 52 rfl) (C.w 51 rfl) (C.w 53 rfl) (C.w 5 rfl) (by decide) (own_chr31 l Z a0 hw _ n0 P207.size a (fun j => if j = 0 then c0 else if j = 1 then c1 else c2 : Nat → Int32) O hx1 cs hcs SC fv hfv SFm SA SH SL) O.exa [(.int (1 : Int32))] [] rfl (lenOf pd_15 rfl) rfl (Nat.le_of_eq rfl) d4_10 rfl (by decide) (by decide) rfl rfl (by decide) (by decide) all0 rfl ?_
  intro T208 h208 v208 P208 K208 Q208
  obtain ⟨e208, g208⟩ := Q208
  subst g208
  subst e208
  show KGo p e below _ T208 m 13 #[.val (.ref a), .unset] [(.int c1)]
  refine k_bipush (z := (58 : Int32)) (pc' := 15) C P208 d4_13 rfl rfl ?_
  refine k_icB (pcY := 20) (pcN := 18) C P208 d4_15 (by decide) (by decide) rfl ?_ ?_
  · intro (hc15 : c1 = (58 : Int32))
    refine k_aloadN (pc' := 21) C P208 d4_20 rfl rfl rfl ?_
    refine k_iconst (z := (0 : Int32)) (pc' := 22) C P208 d4_21 rfl rfl ?_
    refine k_callV (pc' := 25) (cells' := 0) (slots' := 0) (W := 0) C P208 (C.w 49 rfl) (C.w 50 rfl) (fun _ q => notFace_of_selects (args := #[]) (mvT q (C.w 52 rfl))) (C.w 52 rfl) (C.w 51 rfl) (C.w 53 rfl) (C.w 5 rfl) (by decide) (own_chr30 l Z a0 hw _ n0 P208.size a (fun j => if j = 0 then c0 else if j = 1 then c1 else c2 : Nat → Int32) O hx0 cs hcs SC fv hfv SFm SA SH SL) O.exa [(.int (0 : Int32))] [] rfl (lenOf pd_15 rfl) rfl (Nat.le_of_eq rfl) d4_22 rfl (by decide) (by decide) rfl rfl (by decide) (by decide) all0 rfl ?_
    intro T209 h209 v209 P209 K209 Q209
    obtain ⟨e209, g209⟩ := Q209
    subst g209
    subst e209
    show KGo p e below _ T209 m 25 #[.val (.ref a), .unset] [(.int c0)]
    refine k_istoreN (l' := #[.val (.ref a), .val (.int c0)]) (pc' := 26) C P209 d4_25 rfl rfl ?_
    refine k_iloadN (pc' := 27) C P209 d4_26 rfl rfl ?_
    refine k_bipush (z := (97 : Int32)) (pc' := 29) C P209 d4_27 rfl rfl ?_
    refine k_icB (pcY := 38) (pcN := 32) C P209 d4_29 (by decide) (by decide) rfl ?_ ?_
    · intro (hc29 : c0 < (97 : Int32))
      refine k_iloadN (pc' := 39) C P209 d4_38 rfl rfl ?_
      refine k_bipush (z := (65 : Int32)) (pc' := 41) C P209 d4_39 rfl rfl ?_
      refine k_icB (pcY := 54) (pcN := 44) C P209 d4_41 (by decide) (by decide) rfl ?_ ?_
      · intro (hc41 : c0 < (65 : Int32))
        refine k_iconst (z := (0 : Int32)) (pc' := 55) C P209 d4_54 rfl rfl ?_
        exact k_retZ (z' := (0 : Int32)) C P209 (by simp) d4_55 rfl (by decide) (by decide) ⟨by rw [if_neg (fun q => q.2.elim (fun q => q.1 hc29) (fun r => r.1 hc41))], rfl⟩
      · intro (hc41 : ¬ c0 < (65 : Int32))
        refine k_iloadN (pc' := 45) C P209 d4_44 rfl rfl ?_
        refine k_bipush (z := (90 : Int32)) (pc' := 47) C P209 d4_45 rfl rfl ?_
        refine k_icB (pcY := 54) (pcN := 50) C P209 d4_47 (by decide) (by decide) rfl ?_ ?_
        · intro (hc47 : (90 : Int32) < c0)
          refine k_iconst (z := (0 : Int32)) (pc' := 55) C P209 d4_54 rfl rfl ?_
          exact k_retZ (z' := (0 : Int32)) C P209 (by simp) d4_55 rfl (by decide) (by decide) ⟨by rw [if_neg (fun q => q.2.elim (fun q => q.1 hc29) (fun r => r.2 hc47))], rfl⟩
        · intro (hc47 : ¬ (90 : Int32) < c0)
          refine k_iconst (z := (1 : Int32)) (pc' := 51) C P209 d4_50 rfl rfl ?_
          refine k_goto (pc' := 55) C P209 d4_51 (by decide) (by decide) ?_
          exact k_retZ (z' := (1 : Int32)) C P209 (by simp) d4_55 rfl (by decide) (by decide) ⟨by rw [if_pos ⟨hc15, Or.inr ⟨hc41, hc47⟩⟩], rfl⟩
    · intro (hc29 : ¬ c0 < (97 : Int32))
      refine k_iloadN (pc' := 33) C P209 d4_32 rfl rfl ?_
      refine k_bipush (z := (122 : Int32)) (pc' := 35) C P209 d4_33 rfl rfl ?_
      refine k_icB (pcY := 50) (pcN := 38) C P209 d4_35 (by decide) (by decide) rfl ?_ ?_
      · intro (hc35 : ¬ (122 : Int32) < c0)
        refine k_iconst (z := (1 : Int32)) (pc' := 51) C P209 d4_50 rfl rfl ?_
        refine k_goto (pc' := 55) C P209 d4_51 (by decide) (by decide) ?_
        exact k_retZ (z' := (1 : Int32)) C P209 (by simp) d4_55 rfl (by decide) (by decide) ⟨by rw [if_pos ⟨hc15, Or.inl ⟨hc29, hc35⟩⟩], rfl⟩
      · intro (hc35 : (122 : Int32) < c0)
        refine k_iloadN (pc' := 39) C P209 d4_38 rfl rfl ?_
        refine k_bipush (z := (65 : Int32)) (pc' := 41) C P209 d4_39 rfl rfl ?_
        refine k_icB (pcY := 54) (pcN := 44) C P209 d4_41 (by decide) (by decide) rfl ?_ ?_
        · intro (hc41 : c0 < (65 : Int32))
          refine k_iconst (z := (0 : Int32)) (pc' := 55) C P209 d4_54 rfl rfl ?_
          exact k_retZ (z' := (0 : Int32)) C P209 (by simp) d4_55 rfl (by decide) (by decide) ⟨by rw [if_neg (fun q => q.2.elim (fun q => q.2 hc35) (fun r => r.1 hc41))], rfl⟩
        · intro (hc41 : ¬ c0 < (65 : Int32))
          refine k_iloadN (pc' := 45) C P209 d4_44 rfl rfl ?_
          refine k_bipush (z := (90 : Int32)) (pc' := 47) C P209 d4_45 rfl rfl ?_
          refine k_icB (pcY := 54) (pcN := 50) C P209 d4_47 (by decide) (by decide) rfl ?_ ?_
          · intro (hc47 : (90 : Int32) < c0)
            refine k_iconst (z := (0 : Int32)) (pc' := 55) C P209 d4_54 rfl rfl ?_
            exact k_retZ (z' := (0 : Int32)) C P209 (by simp) d4_55 rfl (by decide) (by decide) ⟨by rw [if_neg (fun q => q.2.elim (fun q => q.2 hc35) (fun r => r.2 hc47))], rfl⟩
          · intro (hc47 : ¬ (90 : Int32) < c0)
            refine k_iconst (z := (1 : Int32)) (pc' := 51) C P209 d4_50 rfl rfl ?_
            refine k_goto (pc' := 55) C P209 d4_51 (by decide) (by decide) ?_
            exact k_retZ (z' := (1 : Int32)) C P209 (by simp) d4_55 rfl (by decide) (by decide) ⟨by rw [if_pos ⟨hc15, Or.inr ⟨hc41, hc47⟩⟩], rfl⟩
  · intro (hc15 : ¬ c1 = (58 : Int32))
    refine k_iconst (z := (0 : Int32)) (pc' := 19) C P208 d4_18 rfl rfl ?_
    exact k_retZ (z' := (0 : Int32)) C P208 (by simp) d4_19 rfl (by decide) (by decide) ⟨by rw [if_neg (fun q => hc15 q.1)], rfl⟩
theorem pn_0 : plainName "com/example/grantline/grantline/permission/PathSyntaxStartsWithDrivePinLaw" = true := by first | (simp [plainName, overriddenIn]; done) | decide +kernel
theorem ef_rm0 (m : MethodId) (x0 : Int32) (x1 : Int32) (x2 : Int32) (x3 : Int32) : entryFrame m #[(.int x0), (.int x1), (.int x2), (.int x3)] maxLocals = mkF m 0 #[.val (.int x0), .val (.int x1), .val (.int x2), .val (.int x3), .unset, .unset, .unset, .unset, .unset, .unset, .unset, .unset, .unset] [] := by first | (simp [entryFrame, mkF, argsToLocals, Value.category, maxLocals]; done) | rfl
set_option maxRecDepth 65536 in
set_option maxHeartbeats 40000000 in
theorem rm0 (l : Launch) (Z : State) (a0 : Array Value) (hw : ∀ d ∈ tables_1, d.before a0 Z = true) (h0 : Heap) (n0 : Nat) (Z0 : n0 ≤ h0.size) (p0 p1 p2 p3 : Int32) (cs : Int32) (hcs : ¬ cs = 0) (SC : Sta Z h0 "java/lang/String" "COMPACT_STRINGS" "Z" (.int cs)) (fv : Value) (hfv : fv.isRef = true) (SFm : Sta Z h0 "jdk/internal/util/Preconditions" "SIOOBE_FORMATTER" "Ljava/util/function/BiFunction;" fv) (SA : Sta Z h0 "java/lang/StringUTF16" "$assertionsDisabled" "Z" (.int 1)) (SH : Sta Z h0 "java/lang/StringUTF16" "HI_BYTE_SHIFT" "I" (.int 0)) (SL : Sta Z h0 "java/lang/StringUTF16" "LO_BYTE_SHIFT" "I" (.int 8)) :
    KCh consts_1 l x code maxLocals ret room_1 Z n0 h0 #[(.int p0), (.int p1), (.int p2), (.int p3)] [] [] (fun v h => v = some (.int 1)) := by
  refine k_enterH (tbl := tables_1) (a0 := a0) (Ls := #[.val (.int p0), .val (.int p1), .val (.int p2), .val (.int p3), .unset, .unset, .unset, .unset, .unset, .unset, .unset, .unset, .unset]) (plainFor_of_name pn_0) hw Z0 (fun m => ef_rm0 m p0 p1 p2 p3) ?_
  intro p e s m below meth c T C P HR SFs
  refine k_iloadN (pc' := 1) C P at_0 rfl rfl ?_
  refine k_ldcI (pc' := 3) C P (C.w 0 rfl) at_1 rfl ?_
  refine k_iand (pc' := 4) C P at_3 rfl ?_
  refine k_iconst (z := (4 : Int32)) (pc' := 5) C P at_4 rfl rfl ?_
  refine k_irem (pc' := 6) C P at_5 (by decide) rfl ?_
  obtain ⟨ln, e_ln⟩ : ∃ z, z = ((p0 &&& (2147483647 : Int32)) % (4 : Int32)) := ⟨_, rfl⟩
  rw [← e_ln]
  obtain ⟨Ln, hLn, hLn4⟩ : ∃ N : Nat, ln.toInt = (N : Int) ∧ N < 4 := by rw [e_ln]; exact own_q p0
  clear e_ln
  refine k_istore (l' := #[.val (.int p0), .val (.int p1), .val (.int p2), .val (.int p3), .val (.int ln), .unset, .unset, .unset, .unset, .unset, .unset, .unset, .unset]) (pc' := 8) C P at_6 rfl rfl ?_
  refine k_iloadN (pc' := 9) C P at_8 rfl rfl ?_
  refine k_bipush (z := (16 : Int32)) (pc' := 11) C P at_9 rfl rfl ?_
  refine k_iushr (pc' := 12) C P at_11 rfl ?_
  refine k_iconst (z := (3 : Int32)) (pc' := 13) C P at_12 rfl rfl ?_
  refine k_iand (pc' := 14) C P at_13 rfl ?_
  refine k_join (pc' := 30) (Ls' := #[.val (.int p0), .val (.int p1), .val (.int p2), .val (.int p3), .val (.int ln), .unset, .unset, .unset, .unset, .unset, .unset, .unset, .unset]) (st' := [(.int (if ((k_ushr p1 (16 : Int32)) &&& (3 : Int32)) = 0 then ((p1 &&& (65535 : Int32)).toUInt32.toUInt16.toUInt32.toInt32) else ((p1 &&& (127 : Int32)).toUInt32.toUInt16.toUInt32.toInt32)))]) P ?_ ?_
  · intro hj210
    refine k_ifB (pcY := 25) (pcN := 17) C P at_14 (by decide) (by decide) rfl ?_ ?_
    · intro (hc14 : ¬ ((k_ushr p1 (16 : Int32)) &&& (3 : Int32)) = (0 : Int32))
      refine k_iloadN (pc' := 26) C P at_25 rfl rfl ?_
      refine k_bipush (z := (127 : Int32)) (pc' := 28) C P at_26 rfl rfl ?_
      refine k_iand (pc' := 29) C P at_28 rfl ?_
      refine k_i2c (pc' := 30) C P at_29 rfl ?_
      exact (hj210 _ P).cast rfl (by rw [if_neg hc14])
    · intro (hc14 : ((k_ushr p1 (16 : Int32)) &&& (3 : Int32)) = (0 : Int32))
      refine k_iloadN (pc' := 18) C P at_17 rfl rfl ?_
      refine k_ldcI (pc' := 20) C P (C.w 1 rfl) at_18 rfl ?_
      refine k_iand (pc' := 21) C P at_20 rfl ?_
      refine k_i2c (pc' := 22) C P at_21 rfl ?_
      refine k_goto (pc' := 30) C P at_22 (by decide) (by decide) ?_
      exact (hj210 _ P).cast rfl (by rw [if_pos hc14])
  intro T210 P210
  obtain ⟨c0, e_c0⟩ : ∃ z, z = (if ((k_ushr p1 (16 : Int32)) &&& (3 : Int32)) = 0 then ((p1 &&& (65535 : Int32)).toUInt32.toUInt16.toUInt32.toInt32) else ((p1 &&& (127 : Int32)).toUInt32.toUInt16.toUInt32.toInt32)) := ⟨_, rfl⟩
  rw [← e_c0]
  have hc0 : own_ch c0 := by rw [e_c0]; exact own_chi _ (own_chc _) (own_chc _)
  clear e_c0
  refine k_istore (l' := #[.val (.int p0), .val (.int p1), .val (.int p2), .val (.int p3), .val (.int ln), .val (.int c0), .unset, .unset, .unset, .unset, .unset, .unset, .unset]) (pc' := 32) C P210 at_30 rfl rfl ?_
  refine k_iloadN (pc' := 33) C P210 at_32 rfl rfl ?_
  refine k_bipush (z := (16 : Int32)) (pc' := 35) C P210 at_33 rfl rfl ?_
  refine k_iushr (pc' := 36) C P210 at_35 rfl ?_
  refine k_iconst (z := (1 : Int32)) (pc' := 37) C P210 at_36 rfl rfl ?_
  refine k_iand (pc' := 38) C P210 at_37 rfl ?_
  refine k_join (pc' := 51) (Ls' := #[.val (.int p0), .val (.int p1), .val (.int p2), .val (.int p3), .val (.int ln), .val (.int c0), .unset, .unset, .unset, .unset, .unset, .unset, .unset]) (st' := [(.int (if ((k_ushr p2 (16 : Int32)) &&& (1 : Int32)) = 0 then (58 : Int32) else ((p2 &&& (65535 : Int32)).toUInt32.toUInt16.toUInt32.toInt32)))]) P210 ?_ ?_
  · intro hj211
    refine k_ifB (pcY := 46) (pcN := 41) C P210 at_38 (by decide) (by decide) rfl ?_ ?_
    · intro (hc38 : ¬ ((k_ushr p2 (16 : Int32)) &&& (1 : Int32)) = (0 : Int32))
      refine k_iloadN (pc' := 47) C P210 at_46 rfl rfl ?_
      refine k_ldcI (pc' := 49) C P210 (C.w 1 rfl) at_47 rfl ?_
      refine k_iand (pc' := 50) C P210 at_49 rfl ?_
      refine k_i2c (pc' := 51) C P210 at_50 rfl ?_
      exact (hj211 _ P210).cast rfl (by rw [if_neg hc38])
    · intro (hc38 : ((k_ushr p2 (16 : Int32)) &&& (1 : Int32)) = (0 : Int32))
      refine k_bipush (z := (58 : Int32)) (pc' := 43) C P210 at_41 rfl rfl ?_
      refine k_goto (pc' := 51) C P210 at_43 (by decide) (by decide) ?_
      exact (hj211 _ P210).cast rfl (by rw [if_pos hc38])
  intro T211 P211
  obtain ⟨c1, e_c1⟩ : ∃ z, z = (if ((k_ushr p2 (16 : Int32)) &&& (1 : Int32)) = 0 then (58 : Int32) else ((p2 &&& (65535 : Int32)).toUInt32.toUInt16.toUInt32.toInt32)) := ⟨_, rfl⟩
  rw [← e_c1]
  have hc1 : own_ch c1 := by rw [e_c1]; exact own_chi _ ⟨58, rfl, by decide⟩ (own_chc _)
  clear e_c1
  refine k_istore (l' := #[.val (.int p0), .val (.int p1), .val (.int p2), .val (.int p3), .val (.int ln), .val (.int c0), .val (.int c1), .unset, .unset, .unset, .unset, .unset, .unset]) (pc' := 53) C P211 at_51 rfl rfl ?_
  refine k_iloadN (pc' := 54) C P211 at_53 rfl rfl ?_
  refine k_ldcI (pc' := 56) C P211 (C.w 1 rfl) at_54 rfl ?_
  refine k_iand (pc' := 57) C P211 at_56 rfl ?_
  refine k_i2c (pc' := 58) C P211 at_57 rfl ?_
  obtain ⟨c2, e_c2⟩ : ∃ z, z = ((p3 &&& (65535 : Int32)).toUInt32.toUInt16.toUInt32.toInt32) := ⟨_, rfl⟩
  rw [← e_c2]
  have hc2 : own_ch c2 := by rw [e_c2]; exact own_chc _
  clear e_c2
  refine k_istore (l' := #[.val (.int p0), .val (.int p1), .val (.int p2), .val (.int p3), .val (.int ln), .val (.int c0), .val (.int c1), .val (.int c2), .unset, .unset, .unset, .unset, .unset]) (pc' := 60) C P211 at_58 rfl rfl ?_
  refine k_iload (pc' := 62) C P211 at_60 rfl rfl ?_
  refine k_ifB (pcY := 73) (pcN := 65) C P211 at_62 (by decide) (by decide) rfl ?_ ?_
  · intro (hc62 : ¬ ln = (0 : Int32))
    refine k_iload (pc' := 75) C P211 at_73 rfl rfl ?_
    refine k_iconst (z := (1 : Int32)) (pc' := 76) C P211 at_75 rfl rfl ?_
    refine k_icB (pcY := 92) (pcN := 79) C P211 at_76 (by decide) (by decide) rfl ?_ ?_
    · intro (hc76 : ¬ ln = (1 : Int32))
      refine k_iload (pc' := 94) C P211 at_92 rfl rfl ?_
      refine k_iconst (z := (2 : Int32)) (pc' := 95) C P211 at_94 rfl rfl ?_
      refine k_icB (pcY := 116) (pcN := 98) C P211 at_95 (by decide) (by decide) rfl ?_ ?_
      · intro (hc95 : ¬ ln = (2 : Int32))
        have hl3 : ln = 3 := own_l3 hLn hLn4 hc62 hc76 hc95
        clear hc62 hc76 hc95 hLn
        subst hl3
        refine k_iconst (z := (3 : Int32)) (pc' := 117) C P211 at_116 rfl rfl ?_
        refine k_newp (pc' := 119) (cells' := 1) (slots' := 3) (N := 3) (cap := 3) C P211 (C.w 2 rfl) at_117 rfl (by decide) (by decide) rfl rfl (by decide) (by decide) rfl ?_
        intro T212 h212 b212 k212 P212 hs212 ge_b212 sz_b212 E212 V212
        have f212_HR := CHr.trans HR (CHr.ext E212 HR.1)
        refine k_dup (pc' := 120) C P212 at_119 rfl rfl ?_
        refine k_iconst (z := (0 : Int32)) (pc' := 121) C P212 at_120 rfl rfl ?_
        refine k_iload (pc' := 123) C P212 at_121 rfl rfl ?_
        refine k_castore (J := 0) (g' := (fun j => Value.int (if j = 0 then c0 else 0))) (pc' := 124) C P212 V212 at_123 rfl (by decide) (fun i hi => by match i, hi with | 0, _ => exact congrArg Value.int (own_nch hc0) | 1, _ => rfl | 2, _ => rfl) ge_b212 (Or.inr sz_b212) rfl ?_
        intro T213 h213 P213 W213 V213
        have f213_HR := CHr.trans f212_HR (CHr.wr W213 (V212.safe P212.alike nofun) f212_HR.1)
        refine k_dup (pc' := 125) C P213 at_124 rfl rfl ?_
        refine k_iconst (z := (1 : Int32)) (pc' := 126) C P213 at_125 rfl rfl ?_
        refine k_iload (pc' := 128) C P213 at_126 rfl rfl ?_
        refine k_castore (J := 1) (g' := (fun j => Value.int (if j = 0 then c0 else if j = 1 then c1 else 0))) (pc' := 129) C P213 V213 at_128 rfl (by decide) (fun i hi => by match i, hi with | 0, _ => rfl | 1, _ => exact congrArg Value.int (own_nch hc1) | 2, _ => rfl) ge_b212 (Or.inr sz_b212) rfl ?_
        intro T214 h214 P214 W214 V214
        have f214_HR := CHr.trans f213_HR (CHr.wr W214 (V213.safe P213.alike nofun) f213_HR.1)
        refine k_dup (pc' := 130) C P214 at_129 rfl rfl ?_
        refine k_iconst (z := (2 : Int32)) (pc' := 131) C P214 at_130 rfl rfl ?_
        refine k_iload (pc' := 133) C P214 at_131 rfl rfl ?_
        refine k_castore (J := 2) (g' := (fun j => Value.int (if j = 0 then c0 else if j = 1 then c1 else c2))) (pc' := 134) C P214 V214 at_133 rfl (by decide) (fun i hi => by match i, hi with | 0, _ => rfl | 1, _ => rfl | 2, _ => exact congrArg Value.int (own_nch hc2)) ge_b212 (Or.inr sz_b212) rfl ?_
        intro T215 h215 P215 W215 V215
        have f215_HR := CHr.trans f214_HR (CHr.wr W215 (V214.safe P214.alike nofun) f214_HR.1)
        refine k_astore (l' := #[.val (.int p0), .val (.int p1), .val (.int p2), .val (.int p3), .val (.int (3 : Int32)), .val (.int c0), .val (.int c1), .val (.int c2), .val (.ref b212), .unset, .unset, .unset, .unset]) (pc' := 136) C P215 at_134 rfl rfl rfl ?_
        refine k_newo (pc' := 139) (cells' := 2) (slots' := 7) C P215 (C.w 3 rfl) (C.w 4 rfl) (C.w 5 rfl) at_136 rfl rfl (by decide) (by decide) rfl ?_
        intro T216 h216 b216 P216 hs216 ge_b216 sz_b216 E216 A216 D216
        have ne_b212_b216 : b212 ≠ b216 := Nat.ne_of_lt (hs216 ▸ V215.lt)
        have sf_b216 := Safe.ext E216 f215_HR.1 (Safe.new (Z := Z) (EL := consts_1) (vm := s.vm) (Nat.le_of_eq hs216))
        have f216_HR := CHr.trans f215_HR (CHr.ext E216 f215_HR.1)
        have f216_b212 := V215.ext E216
        have f216_b216 : KOb Z h216 b216 "java/lang/String" layS [(.int (0 : Int32)), .null] := KOb.new A216 D216 (lokS C.hw) (by decide +kernel)
        refine k_dup (pc' := 140) C P216 at_139 rfl rfl ?_
        refine k_aload (pc' := 142) C P216 at_140 rfl rfl rfl ?_
        refine k_callN (pc' := 145) (cells' := 4) (slots' := 19) (W := 1) C P216 rfl (C.w 6 rfl) (C.w 7 rfl) (C.w 8 rfl) (C.w 5 rfl) (by decide) (own_new3 l Z a0 hw _ n0 P216.size c0 c1 c2 hc0 hc1 hc2 b212 k212 f216_b212 b216 ge_b216 f216_b216 cs hcs (SC.ext (k_ext_of_keep P216.kept)) (SA.ext (k_ext_of_keep P216.kept)) (SH.ext (k_ext_of_keep P216.kept)) (SL.ext (k_ext_of_keep P216.kept))) b216 [(.ref b212)] [(.ref b216)] rfl (lenOf pd_16 rfl) rfl (Nat.le_of_eq rfl) at_142 rfl (by decide) (by decide) rfl rfl (by decide) (by decide) (allS (Or.inr sz_b216) all0) rfl ?_
        intro T217 h217 v217 P217 K217 Q217
        obtain ⟨rfl, ST217⟩ := Q217
        have f217_HR := CHr.trans f216_HR (CHr.keep K217 (List.forall_mem_cons.mpr ⟨sf_b216, (fun _ q => nomatch q)⟩) f216_HR.1)
        have f217_b212 := f216_b212.keep K217 (ninS ne_b212_b216 nin0)
        have f217_SF_b216 := Safe.keep K217 (List.forall_mem_cons.mpr ⟨sf_b216, (fun _ q => nomatch q)⟩) f216_HR.1 sf_b216
        show KGo p e below _ T217 m 145 #[.val (.int p0), .val (.int p1), .val (.int p2), .val (.int p3), .val (.int (3 : Int32)), .val (.int c0), .val (.int c1), .val (.int c2), .val (.ref b212), .unset, .unset, .unset, .unset] [(.ref b216)]
        refine k_astore (l' := #[.val (.int p0), .val (.int p1), .val (.int p2), .val (.int p3), .val (.int (3 : Int32)), .val (.int c0), .val (.int c1), .val (.int c2), .val (.ref b212), .val (.ref b216), .unset, .unset, .unset]) (pc' := 147) C P217 at_145 rfl rfl rfl ?_
        refine k_iload (pc' := 149) C P217 at_147 rfl rfl ?_
        refine k_bipush (z := (32 : Int32)) (pc' := 151) C P217 at_149 rfl rfl ?_
        refine k_ior (pc' := 152) C P217 at_151 rfl ?_
        refine k_istore (l' := #[.val (.int p0), .val (.int p1), .val (.int p2), .val (.int p3), .val (.int (3 : Int32)), .val (.int c0), .val (.int c1), .val (.int c2), .val (.ref b212), .val (.ref b216), .val (.int (c0 ||| (32 : Int32))), .unset, .unset]) (pc' := 154) C P217 at_152 rfl rfl ?_
        refine k_join (pc' := 173) (Ls' := #[.val (.int p0), .val (.int p1), .val (.int p2), .val (.int p3), .val (.int (3 : Int32)), .val (.int c0), .val (.int c1), .val (.int c2), .val (.ref b212), .val (.ref b216), .val (.int (c0 ||| (32 : Int32))), .unset, .unset]) (st' := [(.int (if (¬ (c0 ||| (32 : Int32)) < (97 : Int32) ∧ ¬ (122 : Int32) < (c0 ||| (32 : Int32))) then (1 : Int32) else 0))]) P217 ?_ ?_
        · intro hj218
          refine k_iload (pc' := 156) C P217 at_154 rfl rfl ?_
          refine k_bipush (z := (97 : Int32)) (pc' := 158) C P217 at_156 rfl rfl ?_
          refine k_icB (pcY := 172) (pcN := 161) C P217 at_158 (by decide) (by decide) rfl ?_ ?_
          · intro (hc158 : (c0 ||| (32 : Int32)) < (97 : Int32))
            refine k_iconst (z := (0 : Int32)) (pc' := 173) C P217 at_172 rfl rfl ?_
            exact (hj218 _ P217).cast rfl (by rw [if_neg (show ¬ (¬ (c0 ||| (32 : Int32)) < (97 : Int32) ∧ ¬ (122 : Int32) < (c0 ||| (32 : Int32))) from fun q => q.1 hc158)])
          · intro (hc158 : ¬ (c0 ||| (32 : Int32)) < (97 : Int32))
            refine k_iload (pc' := 163) C P217 at_161 rfl rfl ?_
            refine k_bipush (z := (122 : Int32)) (pc' := 165) C P217 at_163 rfl rfl ?_
            refine k_icB (pcY := 172) (pcN := 168) C P217 at_165 (by decide) (by decide) rfl ?_ ?_
            · intro (hc165 : (122 : Int32) < (c0 ||| (32 : Int32)))
              refine k_iconst (z := (0 : Int32)) (pc' := 173) C P217 at_172 rfl rfl ?_
              exact (hj218 _ P217).cast rfl (by rw [if_neg (show ¬ (¬ (c0 ||| (32 : Int32)) < (97 : Int32) ∧ ¬ (122 : Int32) < (c0 ||| (32 : Int32))) from fun q => q.2 hc165)])
            · intro (hc165 : ¬ (122 : Int32) < (c0 ||| (32 : Int32)))
              refine k_iconst (z := (1 : Int32)) (pc' := 169) C P217 at_168 rfl rfl ?_
              refine k_goto (pc' := 173) C P217 at_169 (by decide) (by decide) ?_
              exact (hj218 _ P217).cast rfl (by rw [if_pos (show (¬ (c0 ||| (32 : Int32)) < (97 : Int32) ∧ ¬ (122 : Int32) < (c0 ||| (32 : Int32))) from ⟨hc158, hc165⟩)])
        intro T218 P218
        refine k_istore (l' := #[.val (.int p0), .val (.int p1), .val (.int p2), .val (.int p3), .val (.int (3 : Int32)), .val (.int c0), .val (.int c1), .val (.int c2), .val (.ref b212), .val (.ref b216), .val (.int (c0 ||| (32 : Int32))), .val (.int (if (¬ (c0 ||| (32 : Int32)) < (97 : Int32) ∧ ¬ (122 : Int32) < (c0 ||| (32 : Int32))) then (1 : Int32) else 0)), .unset]) (pc' := 175) C P218 at_173 rfl rfl ?_
        refine k_iload (pc' := 177) C P218 at_175 rfl rfl ?_
        refine k_iconst (z := (2 : Int32)) (pc' := 178) C P218 at_177 rfl rfl ?_
        refine k_icN (pc' := 181) C P218 at_178 (show ¬ (3 : Int32) < (2 : Int32) by decide) rfl ?_
        refine k_join (pc' := 198) (Ls' := #[.val (.int p0), .val (.int p1), .val (.int p2), .val (.int p3), .val (.int (3 : Int32)), .val (.int c0), .val (.int c1), .val (.int c2), .val (.ref b212), .val (.ref b216), .val (.int (c0 ||| (32 : Int32))), .val (.int (if (¬ (c0 ||| (32 : Int32)) < (97 : Int32) ∧ ¬ (122 : Int32) < (c0 ||| (32 : Int32))) then (1 : Int32) else 0)), .unset]) (st' := [(.int (if c1 = 58 ∧ (¬ (c0 ||| (32 : Int32)) < (97 : Int32) ∧ ¬ (122 : Int32) < (c0 ||| (32 : Int32))) then (1 : Int32) else 0))]) P218 ?_ ?_
        · intro hj219
          refine k_iload (pc' := 183) C P218 at_181 rfl rfl ?_
          refine k_bipush (z := (58 : Int32)) (pc' := 185) C P218 at_183 rfl rfl ?_
          refine k_icB (pcY := 197) (pcN := 188) C P218 at_185 (by decide) (by decide) rfl ?_ ?_
          · intro (hc185 : ¬ c1 = (58 : Int32))
            refine k_iconst (z := (0 : Int32)) (pc' := 198) C P218 at_197 rfl rfl ?_
            exact (hj219 _ P218).cast rfl (by rw [if_neg (show ¬ (c1 = 58 ∧ (¬ (c0 ||| (32 : Int32)) < (97 : Int32) ∧ ¬ (122 : Int32) < (c0 ||| (32 : Int32)))) from fun q => hc185 q.1)])
          · intro (hc185 : c1 = (58 : Int32))
            refine k_iload (pc' := 190) C P218 at_188 rfl rfl ?_
            refine k_ifB (pcY := 197) (pcN := 193) C P218 at_190 (by decide) (by decide) rfl ?_ ?_
            · intro (hc190 : (if (¬ (c0 ||| (32 : Int32)) < (97 : Int32) ∧ ¬ (122 : Int32) < (c0 ||| (32 : Int32))) then (1 : Int32) else 0) = (0 : Int32))
              refine k_iconst (z := (0 : Int32)) (pc' := 198) C P218 at_197 rfl rfl ?_
              exact (hj219 _ P218).cast rfl (by rw [if_neg (show ¬ (c1 = 58 ∧ (¬ (c0 ||| (32 : Int32)) < (97 : Int32) ∧ ¬ (122 : Int32) < (c0 ||| (32 : Int32)))) from fun q => own_i0 hc190 q.2)])
            · intro (hc190 : ¬ (if (¬ (c0 ||| (32 : Int32)) < (97 : Int32) ∧ ¬ (122 : Int32) < (c0 ||| (32 : Int32))) then (1 : Int32) else 0) = (0 : Int32))
              refine k_iconst (z := (1 : Int32)) (pc' := 194) C P218 at_193 rfl rfl ?_
              refine k_goto (pc' := 198) C P218 at_194 (by decide) (by decide) ?_
              exact (hj219 _ P218).cast rfl (by rw [if_pos (show (c1 = 58 ∧ (¬ (c0 ||| (32 : Int32)) < (97 : Int32) ∧ ¬ (122 : Int32) < (c0 ||| (32 : Int32)))) from ⟨hc185, own_i1 hc190⟩)])
        intro T219 P219
        refine k_istore (l' := #[.val (.int p0), .val (.int p1), .val (.int p2), .val (.int p3), .val (.int (3 : Int32)), .val (.int c0), .val (.int c1), .val (.int c2), .val (.ref b212), .val (.ref b216), .val (.int (c0 ||| (32 : Int32))), .val (.int (if (¬ (c0 ||| (32 : Int32)) < (97 : Int32) ∧ ¬ (122 : Int32) < (c0 ||| (32 : Int32))) then (1 : Int32) else 0)), .val (.int (if c1 = 58 ∧ (¬ (c0 ||| (32 : Int32)) < (97 : Int32) ∧ ¬ (122 : Int32) < (c0 ||| (32 : Int32))) then (1 : Int32) else 0))]) (pc' := 200) C P219 at_198 rfl rfl ?_
        refine k_aload (pc' := 202) C P219 at_200 rfl rfl rfl ?_
        refine k_callT (pc' := 205) (cells' := 4) (slots' := 19) (W := 0) C P219 (C.w 24 rfl) (C.w 25 rfl) (C.w 27 rfl) (C.w 26 rfl) (by decide) (rmD3 l Z a0 hw _ n0 P219.size c0 c1 c2 hc0 hc1 hc2 b216 ST217 cs hcs (SC.ext (k_ext_of_keep P219.kept)) fv hfv (SFm.ext (k_ext_of_keep P219.kept)) (SA.ext (k_ext_of_keep P219.kept)) (SH.ext (k_ext_of_keep P219.kept)) (SL.ext (k_ext_of_keep P219.kept))) [(.ref b216)] [] rfl (lenOf pd_17 rfl) rfl (Nat.le_of_eq rfl) at_202 rfl (by decide) (by decide) rfl rfl (by decide) (by decide) all0 rfl ?_
        intro T220 h220 v220 P220 K220 Q220
        obtain ⟨e220, g220⟩ := Q220
        subst g220
        subst e220
        show KGo p e below _ T220 m 205 #[.val (.int p0), .val (.int p1), .val (.int p2), .val (.int p3), .val (.int (3 : Int32)), .val (.int c0), .val (.int c1), .val (.int c2), .val (.ref b212), .val (.ref b216), .val (.int (c0 ||| (32 : Int32))), .val (.int (if (¬ (c0 ||| (32 : Int32)) < (97 : Int32) ∧ ¬ (122 : Int32) < (c0 ||| (32 : Int32))) then (1 : Int32) else 0)), .val (.int (if c1 = 58 ∧ (¬ (c0 ||| (32 : Int32)) < (97 : Int32) ∧ ¬ (122 : Int32) < (c0 ||| (32 : Int32))) then (1 : Int32) else 0))] [(.int (if c1 = 58 ∧ ((¬ c0 < (97 : Int32) ∧ ¬ (122 : Int32) < c0) ∨ (¬ c0 < (65 : Int32) ∧ ¬ (90 : Int32) < c0)) then (1 : Int32) else 0))]
        refine k_iload (pc' := 207) C P220 at_205 rfl rfl ?_
        refine k_icN (pc' := 210) C P220 at_207 (own_same hc0 c1) rfl ?_
        refine k_iconst (z := (1 : Int32)) (pc' := 211) C P220 at_210 rfl rfl ?_
        refine k_goto (pc' := 215) C P220 at_211 (by decide) (by decide) ?_
        exact k_retHZ (z' := (1 : Int32)) C P220 (own_EW C.hw) f217_HR (by simp) at_215 rfl (by decide) (by decide) rfl
      · intro (hc95 : ln = (2 : Int32))
        subst hc95
        refine k_iconst (z := (2 : Int32)) (pc' := 99) C P211 at_98 rfl rfl ?_
        refine k_newp (pc' := 101) (cells' := 1) (slots' := 2) (N := 2) (cap := 2) C P211 (C.w 2 rfl) at_99 rfl (by decide) (by decide) rfl rfl (by decide) (by decide) rfl ?_
        intro T221 h221 b221 k221 P221 hs221 ge_b221 sz_b221 E221 V221
        have f221_HR := CHr.trans HR (CHr.ext E221 HR.1)
        refine k_dup (pc' := 102) C P221 at_101 rfl rfl ?_
        refine k_iconst (z := (0 : Int32)) (pc' := 103) C P221 at_102 rfl rfl ?_
        refine k_iload (pc' := 105) C P221 at_103 rfl rfl ?_
        refine k_castore (J := 0) (g' := (fun j => Value.int (if j = 0 then c0 else 0))) (pc' := 106) C P221 V221 at_105 rfl (by decide) (fun i hi => by match i, hi with | 0, _ => exact congrArg Value.int (own_nch hc0) | 1, _ => rfl) ge_b221 (Or.inr sz_b221) rfl ?_
        intro T222 h222 P222 W222 V222
        have f222_HR := CHr.trans f221_HR (CHr.wr W222 (V221.safe P221.alike nofun) f221_HR.1)
        refine k_dup (pc' := 107) C P222 at_106 rfl rfl ?_
        refine k_iconst (z := (1 : Int32)) (pc' := 108) C P222 at_107 rfl rfl ?_
        refine k_iload (pc' := 110) C P222 at_108 rfl rfl ?_
        refine k_castore (J := 1) (g' := (fun j => Value.int (if j = 0 then c0 else c1))) (pc' := 111) C P222 V222 at_110 rfl (by decide) (fun i hi => by match i, hi with | 0, _ => rfl | 1, _ => exact congrArg Value.int (own_nch hc1)) ge_b221 (Or.inr sz_b221) rfl ?_
        intro T223 h223 P223 W223 V223
        have f223_HR := CHr.trans f222_HR (CHr.wr W223 (V222.safe P222.alike nofun) f222_HR.1)
        refine k_astore (l' := #[.val (.int p0), .val (.int p1), .val (.int p2), .val (.int p3), .val (.int (2 : Int32)), .val (.int c0), .val (.int c1), .val (.int c2), .val (.ref b221), .unset, .unset, .unset, .unset]) (pc' := 113) C P223 at_111 rfl rfl rfl ?_
        refine k_goto (pc' := 136) C P223 at_113 (by decide) (by decide) ?_
        refine k_newo (pc' := 139) (cells' := 2) (slots' := 6) C P223 (C.w 3 rfl) (C.w 4 rfl) (C.w 5 rfl) at_136 rfl rfl (by decide) (by decide) rfl ?_
        intro T224 h224 b224 P224 hs224 ge_b224 sz_b224 E224 A224 D224
        have ne_b221_b224 : b221 ≠ b224 := Nat.ne_of_lt (hs224 ▸ V223.lt)
        have sf_b224 := Safe.ext E224 f223_HR.1 (Safe.new (Z := Z) (EL := consts_1) (vm := s.vm) (Nat.le_of_eq hs224))
        have f224_HR := CHr.trans f223_HR (CHr.ext E224 f223_HR.1)
        have f224_b221 := V223.ext E224
        have f224_b224 : KOb Z h224 b224 "java/lang/String" layS [(.int (0 : Int32)), .null] := KOb.new A224 D224 (lokS C.hw) (by decide +kernel)
        refine k_dup (pc' := 140) C P224 at_139 rfl rfl ?_
        refine k_aload (pc' := 142) C P224 at_140 rfl rfl rfl ?_
        refine k_callN (pc' := 145) (cells' := 4) (slots' := 18) (W := 1) C P224 rfl (C.w 6 rfl) (C.w 7 rfl) (C.w 8 rfl) (C.w 5 rfl) (by decide) (own_new2 l Z a0 hw _ n0 P224.size c0 c1 hc0 hc1 b221 k221 f224_b221 b224 ge_b224 f224_b224 cs hcs (SC.ext (k_ext_of_keep P224.kept)) (SA.ext (k_ext_of_keep P224.kept)) (SH.ext (k_ext_of_keep P224.kept)) (SL.ext (k_ext_of_keep P224.kept))) b224 [(.ref b221)] [(.ref b224)] rfl (lenOf pd_16 rfl) rfl (Nat.le_of_eq rfl) at_142 rfl (by decide) (by decide) rfl rfl (by decide) (by decide) (allS (Or.inr sz_b224) all0) rfl ?_
        intro T225 h225 v225 P225 K225 Q225
        obtain ⟨rfl, ST225⟩ := Q225
        have f225_HR := CHr.trans f224_HR (CHr.keep K225 (List.forall_mem_cons.mpr ⟨sf_b224, (fun _ q => nomatch q)⟩) f224_HR.1)
        have f225_b221 := f224_b221.keep K225 (ninS ne_b221_b224 nin0)
        have f225_SF_b224 := Safe.keep K225 (List.forall_mem_cons.mpr ⟨sf_b224, (fun _ q => nomatch q)⟩) f224_HR.1 sf_b224
        show KGo p e below _ T225 m 145 #[.val (.int p0), .val (.int p1), .val (.int p2), .val (.int p3), .val (.int (2 : Int32)), .val (.int c0), .val (.int c1), .val (.int c2), .val (.ref b221), .unset, .unset, .unset, .unset] [(.ref b224)]
        refine k_astore (l' := #[.val (.int p0), .val (.int p1), .val (.int p2), .val (.int p3), .val (.int (2 : Int32)), .val (.int c0), .val (.int c1), .val (.int c2), .val (.ref b221), .val (.ref b224), .unset, .unset, .unset]) (pc' := 147) C P225 at_145 rfl rfl rfl ?_
        refine k_iload (pc' := 149) C P225 at_147 rfl rfl ?_
        refine k_bipush (z := (32 : Int32)) (pc' := 151) C P225 at_149 rfl rfl ?_
        refine k_ior (pc' := 152) C P225 at_151 rfl ?_
        refine k_istore (l' := #[.val (.int p0), .val (.int p1), .val (.int p2), .val (.int p3), .val (.int (2 : Int32)), .val (.int c0), .val (.int c1), .val (.int c2), .val (.ref b221), .val (.ref b224), .val (.int (c0 ||| (32 : Int32))), .unset, .unset]) (pc' := 154) C P225 at_152 rfl rfl ?_
        refine k_join (pc' := 173) (Ls' := #[.val (.int p0), .val (.int p1), .val (.int p2), .val (.int p3), .val (.int (2 : Int32)), .val (.int c0), .val (.int c1), .val (.int c2), .val (.ref b221), .val (.ref b224), .val (.int (c0 ||| (32 : Int32))), .unset, .unset]) (st' := [(.int (if (¬ (c0 ||| (32 : Int32)) < (97 : Int32) ∧ ¬ (122 : Int32) < (c0 ||| (32 : Int32))) then (1 : Int32) else 0))]) P225 ?_ ?_
        · intro hj226
          refine k_iload (pc' := 156) C P225 at_154 rfl rfl ?_
          refine k_bipush (z := (97 : Int32)) (pc' := 158) C P225 at_156 rfl rfl ?_
          refine k_icB (pcY := 172) (pcN := 161) C P225 at_158 (by decide) (by decide) rfl ?_ ?_
          · intro (hc158 : (c0 ||| (32 : Int32)) < (97 : Int32))
            refine k_iconst (z := (0 : Int32)) (pc' := 173) C P225 at_172 rfl rfl ?_
            exact (hj226 _ P225).cast rfl (by rw [if_neg (show ¬ (¬ (c0 ||| (32 : Int32)) < (97 : Int32) ∧ ¬ (122 : Int32) < (c0 ||| (32 : Int32))) from fun q => q.1 hc158)])
          · intro (hc158 : ¬ (c0 ||| (32 : Int32)) < (97 : Int32))
            refine k_iload (pc' := 163) C P225 at_161 rfl rfl ?_
            refine k_bipush (z := (122 : Int32)) (pc' := 165) C P225 at_163 rfl rfl ?_
            refine k_icB (pcY := 172) (pcN := 168) C P225 at_165 (by decide) (by decide) rfl ?_ ?_
            · intro (hc165 : (122 : Int32) < (c0 ||| (32 : Int32)))
              refine k_iconst (z := (0 : Int32)) (pc' := 173) C P225 at_172 rfl rfl ?_
              exact (hj226 _ P225).cast rfl (by rw [if_neg (show ¬ (¬ (c0 ||| (32 : Int32)) < (97 : Int32) ∧ ¬ (122 : Int32) < (c0 ||| (32 : Int32))) from fun q => q.2 hc165)])
            · intro (hc165 : ¬ (122 : Int32) < (c0 ||| (32 : Int32)))
              refine k_iconst (z := (1 : Int32)) (pc' := 169) C P225 at_168 rfl rfl ?_
              refine k_goto (pc' := 173) C P225 at_169 (by decide) (by decide) ?_
              exact (hj226 _ P225).cast rfl (by rw [if_pos (show (¬ (c0 ||| (32 : Int32)) < (97 : Int32) ∧ ¬ (122 : Int32) < (c0 ||| (32 : Int32))) from ⟨hc158, hc165⟩)])
        intro T226 P226
        refine k_istore (l' := #[.val (.int p0), .val (.int p1), .val (.int p2), .val (.int p3), .val (.int (2 : Int32)), .val (.int c0), .val (.int c1), .val (.int c2), .val (.ref b221), .val (.ref b224), .val (.int (c0 ||| (32 : Int32))), .val (.int (if (¬ (c0 ||| (32 : Int32)) < (97 : Int32) ∧ ¬ (122 : Int32) < (c0 ||| (32 : Int32))) then (1 : Int32) else 0)), .unset]) (pc' := 175) C P226 at_173 rfl rfl ?_
        refine k_iload (pc' := 177) C P226 at_175 rfl rfl ?_
        refine k_iconst (z := (2 : Int32)) (pc' := 178) C P226 at_177 rfl rfl ?_
        refine k_icN (pc' := 181) C P226 at_178 (show ¬ (2 : Int32) < (2 : Int32) by decide) rfl ?_
        refine k_join (pc' := 198) (Ls' := #[.val (.int p0), .val (.int p1), .val (.int p2), .val (.int p3), .val (.int (2 : Int32)), .val (.int c0), .val (.int c1), .val (.int c2), .val (.ref b221), .val (.ref b224), .val (.int (c0 ||| (32 : Int32))), .val (.int (if (¬ (c0 ||| (32 : Int32)) < (97 : Int32) ∧ ¬ (122 : Int32) < (c0 ||| (32 : Int32))) then (1 : Int32) else 0)), .unset]) (st' := [(.int (if c1 = 58 ∧ (¬ (c0 ||| (32 : Int32)) < (97 : Int32) ∧ ¬ (122 : Int32) < (c0 ||| (32 : Int32))) then (1 : Int32) else 0))]) P226 ?_ ?_
        · intro hj227
          refine k_iload (pc' := 183) C P226 at_181 rfl rfl ?_
          refine k_bipush (z := (58 : Int32)) (pc' := 185) C P226 at_183 rfl rfl ?_
          refine k_icB (pcY := 197) (pcN := 188) C P226 at_185 (by decide) (by decide) rfl ?_ ?_
          · intro (hc185 : ¬ c1 = (58 : Int32))
            refine k_iconst (z := (0 : Int32)) (pc' := 198) C P226 at_197 rfl rfl ?_
            exact (hj227 _ P226).cast rfl (by rw [if_neg (show ¬ (c1 = 58 ∧ (¬ (c0 ||| (32 : Int32)) < (97 : Int32) ∧ ¬ (122 : Int32) < (c0 ||| (32 : Int32)))) from fun q => hc185 q.1)])
          · intro (hc185 : c1 = (58 : Int32))
            refine k_iload (pc' := 190) C P226 at_188 rfl rfl ?_
            refine k_ifB (pcY := 197) (pcN := 193) C P226 at_190 (by decide) (by decide) rfl ?_ ?_
            · intro (hc190 : (if (¬ (c0 ||| (32 : Int32)) < (97 : Int32) ∧ ¬ (122 : Int32) < (c0 ||| (32 : Int32))) then (1 : Int32) else 0) = (0 : Int32))
              refine k_iconst (z := (0 : Int32)) (pc' := 198) C P226 at_197 rfl rfl ?_
              exact (hj227 _ P226).cast rfl (by rw [if_neg (show ¬ (c1 = 58 ∧ (¬ (c0 ||| (32 : Int32)) < (97 : Int32) ∧ ¬ (122 : Int32) < (c0 ||| (32 : Int32)))) from fun q => own_i0 hc190 q.2)])
            · intro (hc190 : ¬ (if (¬ (c0 ||| (32 : Int32)) < (97 : Int32) ∧ ¬ (122 : Int32) < (c0 ||| (32 : Int32))) then (1 : Int32) else 0) = (0 : Int32))
              refine k_iconst (z := (1 : Int32)) (pc' := 194) C P226 at_193 rfl rfl ?_
              refine k_goto (pc' := 198) C P226 at_194 (by decide) (by decide) ?_
              exact (hj227 _ P226).cast rfl (by rw [if_pos (show (c1 = 58 ∧ (¬ (c0 ||| (32 : Int32)) < (97 : Int32) ∧ ¬ (122 : Int32) < (c0 ||| (32 : Int32)))) from ⟨hc185, own_i1 hc190⟩)])
        intro T227 P227
        refine k_istore (l' := #[.val (.int p0), .val (.int p1), .val (.int p2), .val (.int p3), .val (.int (2 : Int32)), .val (.int c0), .val (.int c1), .val (.int c2), .val (.ref b221), .val (.ref b224), .val (.int (c0 ||| (32 : Int32))), .val (.int (if (¬ (c0 ||| (32 : Int32)) < (97 : Int32) ∧ ¬ (122 : Int32) < (c0 ||| (32 : Int32))) then (1 : Int32) else 0)), .val (.int (if c1 = 58 ∧ (¬ (c0 ||| (32 : Int32)) < (97 : Int32) ∧ ¬ (122 : Int32) < (c0 ||| (32 : Int32))) then (1 : Int32) else 0))]) (pc' := 200) C P227 at_198 rfl rfl ?_
        refine k_aload (pc' := 202) C P227 at_200 rfl rfl rfl ?_
        refine k_callT (pc' := 205) (cells' := 4) (slots' := 18) (W := 0) C P227 (C.w 24 rfl) (C.w 25 rfl) (C.w 27 rfl) (C.w 26 rfl) (by decide) (rmD2 l Z a0 hw _ n0 P227.size c0 c1 hc0 hc1 b224 ST225 cs hcs (SC.ext (k_ext_of_keep P227.kept)) fv hfv (SFm.ext (k_ext_of_keep P227.kept)) (SA.ext (k_ext_of_keep P227.kept)) (SH.ext (k_ext_of_keep P227.kept)) (SL.ext (k_ext_of_keep P227.kept))) [(.ref b224)] [] rfl (lenOf pd_17 rfl) rfl (Nat.le_of_eq rfl) at_202 rfl (by decide) (by decide) rfl rfl (by decide) (by decide) all0 rfl ?_
        intro T228 h228 v228 P228 K228 Q228
        obtain ⟨e228, g228⟩ := Q228
        subst g228
        subst e228
        show KGo p e below _ T228 m 205 #[.val (.int p0), .val (.int p1), .val (.int p2), .val (.int p3), .val (.int (2 : Int32)), .val (.int c0), .val (.int c1), .val (.int c2), .val (.ref b221), .val (.ref b224), .val (.int (c0 ||| (32 : Int32))), .val (.int (if (¬ (c0 ||| (32 : Int32)) < (97 : Int32) ∧ ¬ (122 : Int32) < (c0 ||| (32 : Int32))) then (1 : Int32) else 0)), .val (.int (if c1 = 58 ∧ (¬ (c0 ||| (32 : Int32)) < (97 : Int32) ∧ ¬ (122 : Int32) < (c0 ||| (32 : Int32))) then (1 : Int32) else 0))] [(.int (if c1 = 58 ∧ ((¬ c0 < (97 : Int32) ∧ ¬ (122 : Int32) < c0) ∨ (¬ c0 < (65 : Int32) ∧ ¬ (90 : Int32) < c0)) then (1 : Int32) else 0))]
        refine k_iload (pc' := 207) C P228 at_205 rfl rfl ?_
        refine k_icN (pc' := 210) C P228 at_207 (own_same hc0 c1) rfl ?_
        refine k_iconst (z := (1 : Int32)) (pc' := 211) C P228 at_210 rfl rfl ?_
        refine k_goto (pc' := 215) C P228 at_211 (by decide) (by decide) ?_
        exact k_retHZ (z' := (1 : Int32)) C P228 (own_EW C.hw) f225_HR (by simp) at_215 rfl (by decide) (by decide) rfl
    · intro (hc76 : ln = (1 : Int32))
      subst hc76
      refine k_iconst (z := (1 : Int32)) (pc' := 80) C P211 at_79 rfl rfl ?_
      refine k_newp (pc' := 82) (cells' := 1) (slots' := 1) (N := 1) (cap := 1) C P211 (C.w 2 rfl) at_80 rfl (by decide) (by decide) rfl rfl (by decide) (by decide) rfl ?_
      intro T229 h229 b229 k229 P229 hs229 ge_b229 sz_b229 E229 V229
      have f229_HR := CHr.trans HR (CHr.ext E229 HR.1)
      refine k_dup (pc' := 83) C P229 at_82 rfl rfl ?_
      refine k_iconst (z := (0 : Int32)) (pc' := 84) C P229 at_83 rfl rfl ?_
      refine k_iload (pc' := 86) C P229 at_84 rfl rfl ?_
      refine k_castore (J := 0) (g' := (fun j => Value.int (c0))) (pc' := 87) C P229 V229 at_86 rfl (by decide) (fun i hi => by match i, hi with | 0, _ => exact congrArg Value.int (own_nch hc0)) ge_b229 (Or.inr sz_b229) rfl ?_
      intro T230 h230 P230 W230 V230
      have f230_HR := CHr.trans f229_HR (CHr.wr W230 (V229.safe P229.alike nofun) f229_HR.1)
      refine k_astore (l' := #[.val (.int p0), .val (.int p1), .val (.int p2), .val (.int p3), .val (.int (1 : Int32)), .val (.int c0), .val (.int c1), .val (.int c2), .val (.ref b229), .unset, .unset, .unset, .unset]) (pc' := 89) C P230 at_87 rfl rfl rfl ?_
      refine k_goto (pc' := 136) C P230 at_89 (by decide) (by decide) ?_
      refine k_newo (pc' := 139) (cells' := 2) (slots' := 5) C P230 (C.w 3 rfl) (C.w 4 rfl) (C.w 5 rfl) at_136 rfl rfl (by decide) (by decide) rfl ?_
      intro T231 h231 b231 P231 hs231 ge_b231 sz_b231 E231 A231 D231
      have ne_b229_b231 : b229 ≠ b231 := Nat.ne_of_lt (hs231 ▸ V230.lt)
      have sf_b231 := Safe.ext E231 f230_HR.1 (Safe.new (Z := Z) (EL := consts_1) (vm := s.vm) (Nat.le_of_eq hs231))
      have f231_HR := CHr.trans f230_HR (CHr.ext E231 f230_HR.1)
      have f231_b229 := V230.ext E231
      have f231_b231 : KOb Z h231 b231 "java/lang/String" layS [(.int (0 : Int32)), .null] := KOb.new A231 D231 (lokS C.hw) (by decide +kernel)
      refine k_dup (pc' := 140) C P231 at_139 rfl rfl ?_
      refine k_aload (pc' := 142) C P231 at_140 rfl rfl rfl ?_
      refine k_callN (pc' := 145) (cells' := 4) (slots' := 17) (W := 1) C P231 rfl (C.w 6 rfl) (C.w 7 rfl) (C.w 8 rfl) (C.w 5 rfl) (by decide) (own_new1 l Z a0 hw _ n0 P231.size c0 hc0 b229 k229 f231_b229 b231 ge_b231 f231_b231 cs hcs (SC.ext (k_ext_of_keep P231.kept)) (SA.ext (k_ext_of_keep P231.kept)) (SH.ext (k_ext_of_keep P231.kept)) (SL.ext (k_ext_of_keep P231.kept))) b231 [(.ref b229)] [(.ref b231)] rfl (lenOf pd_16 rfl) rfl (Nat.le_of_eq rfl) at_142 rfl (by decide) (by decide) rfl rfl (by decide) (by decide) (allS (Or.inr sz_b231) all0) rfl ?_
      intro T232 h232 v232 P232 K232 Q232
      obtain ⟨rfl, ST232⟩ := Q232
      have f232_HR := CHr.trans f231_HR (CHr.keep K232 (List.forall_mem_cons.mpr ⟨sf_b231, (fun _ q => nomatch q)⟩) f231_HR.1)
      have f232_b229 := f231_b229.keep K232 (ninS ne_b229_b231 nin0)
      have f232_SF_b231 := Safe.keep K232 (List.forall_mem_cons.mpr ⟨sf_b231, (fun _ q => nomatch q)⟩) f231_HR.1 sf_b231
      show KGo p e below _ T232 m 145 #[.val (.int p0), .val (.int p1), .val (.int p2), .val (.int p3), .val (.int (1 : Int32)), .val (.int c0), .val (.int c1), .val (.int c2), .val (.ref b229), .unset, .unset, .unset, .unset] [(.ref b231)]
      refine k_astore (l' := #[.val (.int p0), .val (.int p1), .val (.int p2), .val (.int p3), .val (.int (1 : Int32)), .val (.int c0), .val (.int c1), .val (.int c2), .val (.ref b229), .val (.ref b231), .unset, .unset, .unset]) (pc' := 147) C P232 at_145 rfl rfl rfl ?_
      refine k_iload (pc' := 149) C P232 at_147 rfl rfl ?_
      refine k_bipush (z := (32 : Int32)) (pc' := 151) C P232 at_149 rfl rfl ?_
      refine k_ior (pc' := 152) C P232 at_151 rfl ?_
      refine k_istore (l' := #[.val (.int p0), .val (.int p1), .val (.int p2), .val (.int p3), .val (.int (1 : Int32)), .val (.int c0), .val (.int c1), .val (.int c2), .val (.ref b229), .val (.ref b231), .val (.int (c0 ||| (32 : Int32))), .unset, .unset]) (pc' := 154) C P232 at_152 rfl rfl ?_
      refine k_join (pc' := 173) (Ls' := #[.val (.int p0), .val (.int p1), .val (.int p2), .val (.int p3), .val (.int (1 : Int32)), .val (.int c0), .val (.int c1), .val (.int c2), .val (.ref b229), .val (.ref b231), .val (.int (c0 ||| (32 : Int32))), .unset, .unset]) (st' := [(.int (if (¬ (c0 ||| (32 : Int32)) < (97 : Int32) ∧ ¬ (122 : Int32) < (c0 ||| (32 : Int32))) then (1 : Int32) else 0))]) P232 ?_ ?_
      · intro hj233
        refine k_iload (pc' := 156) C P232 at_154 rfl rfl ?_
        refine k_bipush (z := (97 : Int32)) (pc' := 158) C P232 at_156 rfl rfl ?_
        refine k_icB (pcY := 172) (pcN := 161) C P232 at_158 (by decide) (by decide) rfl ?_ ?_
        · intro (hc158 : (c0 ||| (32 : Int32)) < (97 : Int32))
          refine k_iconst (z := (0 : Int32)) (pc' := 173) C P232 at_172 rfl rfl ?_
          exact (hj233 _ P232).cast rfl (by rw [if_neg (show ¬ (¬ (c0 ||| (32 : Int32)) < (97 : Int32) ∧ ¬ (122 : Int32) < (c0 ||| (32 : Int32))) from fun q => q.1 hc158)])
        · intro (hc158 : ¬ (c0 ||| (32 : Int32)) < (97 : Int32))
          refine k_iload (pc' := 163) C P232 at_161 rfl rfl ?_
          refine k_bipush (z := (122 : Int32)) (pc' := 165) C P232 at_163 rfl rfl ?_
          refine k_icB (pcY := 172) (pcN := 168) C P232 at_165 (by decide) (by decide) rfl ?_ ?_
          · intro (hc165 : (122 : Int32) < (c0 ||| (32 : Int32)))
            refine k_iconst (z := (0 : Int32)) (pc' := 173) C P232 at_172 rfl rfl ?_
            exact (hj233 _ P232).cast rfl (by rw [if_neg (show ¬ (¬ (c0 ||| (32 : Int32)) < (97 : Int32) ∧ ¬ (122 : Int32) < (c0 ||| (32 : Int32))) from fun q => q.2 hc165)])
          · intro (hc165 : ¬ (122 : Int32) < (c0 ||| (32 : Int32)))
            refine k_iconst (z := (1 : Int32)) (pc' := 169) C P232 at_168 rfl rfl ?_
            refine k_goto (pc' := 173) C P232 at_169 (by decide) (by decide) ?_
            exact (hj233 _ P232).cast rfl (by rw [if_pos (show (¬ (c0 ||| (32 : Int32)) < (97 : Int32) ∧ ¬ (122 : Int32) < (c0 ||| (32 : Int32))) from ⟨hc158, hc165⟩)])
      intro T233 P233
      refine k_istore (l' := #[.val (.int p0), .val (.int p1), .val (.int p2), .val (.int p3), .val (.int (1 : Int32)), .val (.int c0), .val (.int c1), .val (.int c2), .val (.ref b229), .val (.ref b231), .val (.int (c0 ||| (32 : Int32))), .val (.int (if (¬ (c0 ||| (32 : Int32)) < (97 : Int32) ∧ ¬ (122 : Int32) < (c0 ||| (32 : Int32))) then (1 : Int32) else 0)), .unset]) (pc' := 175) C P233 at_173 rfl rfl ?_
      refine k_iload (pc' := 177) C P233 at_175 rfl rfl ?_
      refine k_iconst (z := (2 : Int32)) (pc' := 178) C P233 at_177 rfl rfl ?_
      refine k_icY (pc' := 197) C P233 at_178 (show (1 : Int32) < (2 : Int32) by decide) (by decide) (by decide) ?_
      refine k_iconst (z := (0 : Int32)) (pc' := 198) C P233 at_197 rfl rfl ?_
      refine k_istore (l' := #[.val (.int p0), .val (.int p1), .val (.int p2), .val (.int p3), .val (.int (1 : Int32)), .val (.int c0), .val (.int c1), .val (.int c2), .val (.ref b229), .val (.ref b231), .val (.int (c0 ||| (32 : Int32))), .val (.int (if (¬ (c0 ||| (32 : Int32)) < (97 : Int32) ∧ ¬ (122 : Int32) < (c0 ||| (32 : Int32))) then (1 : Int32) else 0)), .val (.int (0 : Int32))]) (pc' := 200) C P233 at_198 rfl rfl ?_
      refine k_aload (pc' := 202) C P233 at_200 rfl rfl rfl ?_
      refine k_callT (pc' := 205) (cells' := 4) (slots' := 17) (W := 0) C P233 (C.w 24 rfl) (C.w 25 rfl) (C.w 27 rfl) (C.w 26 rfl) (by decide) (rmD1 l Z a0 hw _ n0 P233.size c0 hc0 b231 ST232 cs hcs (SC.ext (k_ext_of_keep P233.kept)) fv hfv (SFm.ext (k_ext_of_keep P233.kept)) (SA.ext (k_ext_of_keep P233.kept)) (SH.ext (k_ext_of_keep P233.kept)) (SL.ext (k_ext_of_keep P233.kept))) [(.ref b231)] [] rfl (lenOf pd_17 rfl) rfl (Nat.le_of_eq rfl) at_202 rfl (by decide) (by decide) rfl rfl (by decide) (by decide) all0 rfl ?_
      intro T234 h234 v234 P234 K234 Q234
      obtain ⟨e234, g234⟩ := Q234
      subst g234
      subst e234
      show KGo p e below _ T234 m 205 #[.val (.int p0), .val (.int p1), .val (.int p2), .val (.int p3), .val (.int (1 : Int32)), .val (.int c0), .val (.int c1), .val (.int c2), .val (.ref b229), .val (.ref b231), .val (.int (c0 ||| (32 : Int32))), .val (.int (if (¬ (c0 ||| (32 : Int32)) < (97 : Int32) ∧ ¬ (122 : Int32) < (c0 ||| (32 : Int32))) then (1 : Int32) else 0)), .val (.int (0 : Int32))] [(.int (0 : Int32))]
      refine k_iload (pc' := 207) C P234 at_205 rfl rfl ?_
      refine k_icN (pc' := 210) C P234 at_207 (rfl : (0 : Int32) = 0) rfl ?_
      refine k_iconst (z := (1 : Int32)) (pc' := 211) C P234 at_210 rfl rfl ?_
      refine k_goto (pc' := 215) C P234 at_211 (by decide) (by decide) ?_
      exact k_retHZ (z' := (1 : Int32)) C P234 (own_EW C.hw) f232_HR (by simp) at_215 rfl (by decide) (by decide) rfl
  · intro (hc62 : ln = (0 : Int32))
    subst hc62
    refine k_iconst (z := (0 : Int32)) (pc' := 66) C P211 at_65 rfl rfl ?_
    refine k_newp (pc' := 68) (cells' := 1) (slots' := 0) (N := 0) (cap := 0) C P211 (C.w 2 rfl) at_66 rfl (by decide) (by decide) rfl rfl (by decide) (by decide) rfl ?_
    intro T235 h235 b235 k235 P235 hs235 ge_b235 sz_b235 E235 V235
    have f235_HR := CHr.trans HR (CHr.ext E235 HR.1)
    refine k_astore (l' := #[.val (.int p0), .val (.int p1), .val (.int p2), .val (.int p3), .val (.int (0 : Int32)), .val (.int c0), .val (.int c1), .val (.int c2), .val (.ref b235), .unset, .unset, .unset, .unset]) (pc' := 70) C P235 at_68 rfl rfl rfl ?_
    refine k_goto (pc' := 136) C P235 at_70 (by decide) (by decide) ?_
    refine k_newo (pc' := 139) (cells' := 2) (slots' := 4) C P235 (C.w 3 rfl) (C.w 4 rfl) (C.w 5 rfl) at_136 rfl rfl (by decide) (by decide) rfl ?_
    intro T236 h236 b236 P236 hs236 ge_b236 sz_b236 E236 A236 D236
    have ne_b235_b236 : b235 ≠ b236 := Nat.ne_of_lt (hs236 ▸ V235.lt)
    have sf_b236 := Safe.ext E236 f235_HR.1 (Safe.new (Z := Z) (EL := consts_1) (vm := s.vm) (Nat.le_of_eq hs236))
    have f236_HR := CHr.trans f235_HR (CHr.ext E236 f235_HR.1)
    have f236_b235 := V235.ext E236
    have f236_b236 : KOb Z h236 b236 "java/lang/String" layS [(.int (0 : Int32)), .null] := KOb.new A236 D236 (lokS C.hw) (by decide +kernel)
    refine k_dup (pc' := 140) C P236 at_139 rfl rfl ?_
    refine k_aload (pc' := 142) C P236 at_140 rfl rfl rfl ?_
    refine k_callNH (pc' := 145) (cells' := 6) (slots' := 12) (W := 1) C P236 rfl (C.w 6 rfl) (C.w 7 rfl) (C.w 8 rfl) (C.w 5 rfl) (by decide) (rmNew_0 l Z a0 hw _ n0 P236.size b235 k235 _ f236_b235 b236 ge_b236 f236_b236) (own_EW C.hw) f236_HR.1 (List.forall_mem_cons.mpr ⟨⟨f236_b236.lt, sf_b236⟩, (fun _ q => nomatch q)⟩) b236 [(.ref b235)] [(.ref b236)] rfl (lenOf pd_16 rfl) rfl (Nat.le_of_eq rfl) at_142 rfl (by decide) (by decide) rfl rfl (by decide) (by decide) (allS (Or.inr sz_b236) all0) rfl ?_
    intro s237 T237 h237 v237 P237 K237 R237 Q237
    obtain ⟨rfl, bb, kbb, F237_, V237_⟩ := Q237
    have f237_HR := CHr.trans f236_HR R237
    have f237_b235 := f236_b235.keep K237 (ninS ne_b235_b236 nin0)
    have f237_SF_b236 := CHr.safe R237 f236_b236.lt sf_b236
    have ST237 : own_S 0 Z h237 b236 (fun _ => 0 : Nat → Int32) := Or.inl ⟨_, _, _, F237_, V237_, fun j hj => absurd hj (by omega)⟩
    show KGo p e below _ T237 m 145 #[.val (.int p0), .val (.int p1), .val (.int p2), .val (.int p3), .val (.int (0 : Int32)), .val (.int c0), .val (.int c1), .val (.int c2), .val (.ref b235), .unset, .unset, .unset, .unset] [(.ref b236)]
    refine k_astore (l' := #[.val (.int p0), .val (.int p1), .val (.int p2), .val (.int p3), .val (.int (0 : Int32)), .val (.int c0), .val (.int c1), .val (.int c2), .val (.ref b235), .val (.ref b236), .unset, .unset, .unset]) (pc' := 147) C P237 at_145 rfl rfl rfl ?_
    refine k_iload (pc' := 149) C P237 at_147 rfl rfl ?_
    refine k_bipush (z := (32 : Int32)) (pc' := 151) C P237 at_149 rfl rfl ?_
    refine k_ior (pc' := 152) C P237 at_151 rfl ?_
    refine k_istore (l' := #[.val (.int p0), .val (.int p1), .val (.int p2), .val (.int p3), .val (.int (0 : Int32)), .val (.int c0), .val (.int c1), .val (.int c2), .val (.ref b235), .val (.ref b236), .val (.int (c0 ||| (32 : Int32))), .unset, .unset]) (pc' := 154) C P237 at_152 rfl rfl ?_
    refine k_join (pc' := 173) (Ls' := #[.val (.int p0), .val (.int p1), .val (.int p2), .val (.int p3), .val (.int (0 : Int32)), .val (.int c0), .val (.int c1), .val (.int c2), .val (.ref b235), .val (.ref b236), .val (.int (c0 ||| (32 : Int32))), .unset, .unset]) (st' := [(.int (if (¬ (c0 ||| (32 : Int32)) < (97 : Int32) ∧ ¬ (122 : Int32) < (c0 ||| (32 : Int32))) then (1 : Int32) else 0))]) P237 ?_ ?_
    · intro hj238
      refine k_iload (pc' := 156) C P237 at_154 rfl rfl ?_
      refine k_bipush (z := (97 : Int32)) (pc' := 158) C P237 at_156 rfl rfl ?_
      refine k_icB (pcY := 172) (pcN := 161) C P237 at_158 (by decide) (by decide) rfl ?_ ?_
      · intro (hc158 : (c0 ||| (32 : Int32)) < (97 : Int32))
        refine k_iconst (z := (0 : Int32)) (pc' := 173) C P237 at_172 rfl rfl ?_
        exact (hj238 _ P237).cast rfl (by rw [if_neg (show ¬ (¬ (c0 ||| (32 : Int32)) < (97 : Int32) ∧ ¬ (122 : Int32) < (c0 ||| (32 : Int32))) from fun q => q.1 hc158)])
      · intro (hc158 : ¬ (c0 ||| (32 : Int32)) < (97 : Int32))
        refine k_iload (pc' := 163) C P237 at_161 rfl rfl ?_
        refine k_bipush (z := (122 : Int32)) (pc' := 165) C P237 at_163 rfl rfl ?_
        refine k_icB (pcY := 172) (pcN := 168) C P237 at_165 (by decide) (by decide) rfl ?_ ?_
        · intro (hc165 : (122 : Int32) < (c0 ||| (32 : Int32)))
          refine k_iconst (z := (0 : Int32)) (pc' := 173) C P237 at_172 rfl rfl ?_
          exact (hj238 _ P237).cast rfl (by rw [if_neg (show ¬ (¬ (c0 ||| (32 : Int32)) < (97 : Int32) ∧ ¬ (122 : Int32) < (c0 ||| (32 : Int32))) from fun q => q.2 hc165)])
        · intro (hc165 : ¬ (122 : Int32) < (c0 ||| (32 : Int32)))
          refine k_iconst (z := (1 : Int32)) (pc' := 169) C P237 at_168 rfl rfl ?_
          refine k_goto (pc' := 173) C P237 at_169 (by decide) (by decide) ?_
          exact (hj238 _ P237).cast rfl (by rw [if_pos (show (¬ (c0 ||| (32 : Int32)) < (97 : Int32) ∧ ¬ (122 : Int32) < (c0 ||| (32 : Int32))) from ⟨hc158, hc165⟩)])
    intro T238 P238
    refine k_istore (l' := #[.val (.int p0), .val (.int p1), .val (.int p2), .val (.int p3), .val (.int (0 : Int32)), .val (.int c0), .val (.int c1), .val (.int c2), .val (.ref b235), .val (.ref b236), .val (.int (c0 ||| (32 : Int32))), .val (.int (if (¬ (c0 ||| (32 : Int32)) < (97 : Int32) ∧ ¬ (122 : Int32) < (c0 ||| (32 : Int32))) then (1 : Int32) else 0)), .unset]) (pc' := 175) C P238 at_173 rfl rfl ?_
    refine k_iload (pc' := 177) C P238 at_175 rfl rfl ?_
    refine k_iconst (z := (2 : Int32)) (pc' := 178) C P238 at_177 rfl rfl ?_
    refine k_icY (pc' := 197) C P238 at_178 (show (0 : Int32) < (2 : Int32) by decide) (by decide) (by decide) ?_
    refine k_iconst (z := (0 : Int32)) (pc' := 198) C P238 at_197 rfl rfl ?_
    refine k_istore (l' := #[.val (.int p0), .val (.int p1), .val (.int p2), .val (.int p3), .val (.int (0 : Int32)), .val (.int c0), .val (.int c1), .val (.int c2), .val (.ref b235), .val (.ref b236), .val (.int (c0 ||| (32 : Int32))), .val (.int (if (¬ (c0 ||| (32 : Int32)) < (97 : Int32) ∧ ¬ (122 : Int32) < (c0 ||| (32 : Int32))) then (1 : Int32) else 0)), .val (.int (0 : Int32))]) (pc' := 200) C P238 at_198 rfl rfl ?_
    refine k_aload (pc' := 202) C P238 at_200 rfl rfl rfl ?_
    refine k_callT (pc' := 205) (cells' := 6) (slots' := 12) (W := 0) C P238 (C.w 24 rfl) (C.w 25 rfl) (C.w 27 rfl) (C.w 26 rfl) (by decide) (rmD0 l Z a0 hw _ n0 P238.size  b236 ST237 cs hcs (SC.ext (k_ext_of_keep P238.kept)) fv hfv (SFm.ext (k_ext_of_keep P238.kept)) (SA.ext (k_ext_of_keep P238.kept)) (SH.ext (k_ext_of_keep P238.kept)) (SL.ext (k_ext_of_keep P238.kept))) [(.ref b236)] [] rfl (lenOf pd_17 rfl) rfl (Nat.le_of_eq rfl) at_202 rfl (by decide) (by decide) rfl rfl (by decide) (by decide) all0 rfl ?_
    intro T239 h239 v239 P239 K239 Q239
    obtain ⟨e239, g239⟩ := Q239
    subst g239
    subst e239
    show KGo p e below _ T239 m 205 #[.val (.int p0), .val (.int p1), .val (.int p2), .val (.int p3), .val (.int (0 : Int32)), .val (.int c0), .val (.int c1), .val (.int c2), .val (.ref b235), .val (.ref b236), .val (.int (c0 ||| (32 : Int32))), .val (.int (if (¬ (c0 ||| (32 : Int32)) < (97 : Int32) ∧ ¬ (122 : Int32) < (c0 ||| (32 : Int32))) then (1 : Int32) else 0)), .val (.int (0 : Int32))] [(.int (0 : Int32))]
    refine k_iload (pc' := 207) C P239 at_205 rfl rfl ?_
    refine k_icN (pc' := 210) C P239 at_207 (rfl : (0 : Int32) = 0) rfl ?_
    refine k_iconst (z := (1 : Int32)) (pc' := 211) C P239 at_210 rfl rfl ?_
    refine k_goto (pc' := 215) C P239 at_211 (by decide) (by decide) ?_
    exact k_retHZ (z' := (1 : Int32)) C P239 (own_EW C.hw) f237_HR (by simp) at_215 rfl (by decide) (by decide) rfl
set_option maxRecDepth 65536 in
set_option maxHeartbeats 40000000 in
theorem comes_1 {Post : Tables → Env → Array Value → State → Outcome → State → Prop} (hpost : ∀ tb e args s v u, (limb_1_1.after args s (.returned v) u = true ∧ limb_1_2.after args s (.returned v) u = true ∧ True) → ReturnedEndW s (.returned v) u (Jvm.fieldLocs frame_1_writes args s ++ Jvm.arrayLocs frame_1_arrays args s ++ Jvm.staticLocs frame_1_statics s) 24 1152 → Post tb e args s (.returned v) u) :
    ArmFor flags0 classFile x code maxLocals ret World_1 tables_1 room_1 Calls_1 rest_1 Pre_1 Post := by
  intro l hfl _ _ p e ha hc hk s m args below hf hA hF happ hP
  obtain ⟨hcalls, hrest, hpre⟩ := hP
  obtain ⟨-, -, -, hnamed, -, -, -, hat⟩ := (Spec.applies_iff hf).mp happ
  obtain ⟨hg, hn⟩ := and_e (Cond.before_iff.mp (show (Jvm.Cond.and given_1 narrow_1).before args s = true from hpre))
  obtain ⟨g0, g1⟩ := and_e hg
  obtain ⟨a0, g2⟩ := and_e g1
  obtain ⟨a1, g3⟩ := and_e g2
  obtain ⟨a2, g4⟩ := and_e g3
  have a3 := g4
  obtain ⟨w0, w1, w2, w3, rfl⟩ : ∃ w0 w1 w2 w3 : Value, args = #[w0, w1, w2, w3] := by
    have hs : args.size = 4 := by simpa [Cond.value, given_1] using g0
    obtain ⟨L⟩ := args
    match L, hs with
    | [w0, w1, w2, w3], _ => exact ⟨w0, w1, w2, w3, rfl⟩
  have hw := fun d (hd : d ∈ tables_1) => atoms_spec (ws := Jvm.Cond.code x code maxLocals ret :: tables_1) hat d (List.mem_cons_of_mem _ hd)
  have hfit : Fit s := fun {y c} hc i hi => by
    obtain ⟨ha, rfl⟩ := Array.getElem?_eq_some_iff.mp hc
    have q := List.all_eq_true.mp ((Array.all_eq_true_iff_forall_mem.mp hF) _ (Array.getElem_mem ha)) i (List.mem_range.mpr hi)
    simpa [Array.getElem?_eq_getElem hi] using q
  obtain ⟨hsets, hown0⟩ := atoms_of _ (rest_1_c_eq ▸ (show rest_1_c.before _ s = true from hrest))
  have hr0 := Cond.before_iff.mp hown0
  obtain ⟨i0, ei0⟩ := is_v a0
  obtain rfl : w0 = (.int i0) := Option.some.inj ei0
  obtain ⟨i1, ei1⟩ := is_v a1
  obtain rfl : w1 = (.int i1) := Option.some.inj ei1
  obtain ⟨i2, ei2⟩ := is_v a2
  obtain rfl : w2 = (.int i2) := Option.some.inj ei2
  obtain ⟨i3, ei3⟩ := is_v a3
  obtain rfl : w3 = (.int i3) := Option.some.inj ei3
  obtain ⟨cs, hcs, SC⟩ := own_cs (show ∀ d ∈ jdkStatics_1, d.before _ s = true from hsets)
  obtain ⟨fv, hfv, SFm⟩ := own_fm (show ∀ d ∈ jdkStatics_1, d.before _ s = true from hsets)
  have SA := own_si ((show ∀ d ∈ jdkStatics_1, d.before _ s = true from hsets) _ (List.mem_of_getElem? (i := 11) rfl)) ((show ∀ d ∈ jdkStatics_1, d.before _ s = true from hsets) _ (List.mem_of_getElem? (i := 12) rfl))
  have SH := own_si ((show ∀ d ∈ jdkStatics_1, d.before _ s = true from hsets) _ (List.mem_of_getElem? (i := 14) rfl)) ((show ∀ d ∈ jdkStatics_1, d.before _ s = true from hsets) _ (List.mem_of_getElem? (i := 15) rfl))
  have SL := own_si ((show ∀ d ∈ jdkStatics_1, d.before _ s = true from hsets) _ (List.mem_of_getElem? (i := 17) rfl)) ((show ∀ d ∈ jdkStatics_1, d.before _ s = true from hsets) _ (List.mem_of_getElem? (i := 18) rfl))
  obtain ⟨n, o, h1, h2, h3, _, L, rfl, ⟨N, _, rfl⟩, -, hq0⟩ := (rm0 l s _ hw s.heap s.heap.size (Nat.le_refl _) i0 i1 i2 i3 cs hcs SC fv hfv SFm SA SH SL) tables_1 p e ha hc hk s m _ below hf ((Spec.applies_iff_loose hf).mp happ).1 ⟨rfl, State.Warmed39.refl s, rfl, CHv.start (own_EW hw) (fun p hp => hcalls.1 p hp) ((show ∀ d ∈ jdkStatics_1, d.before _ s = true from hsets) _ (List.mem_of_getElem? (i := 2) rfl)) (hw _ (List.mem_of_getElem? (i := 17) rfl)) (hw _ (List.mem_of_getElem? (i := 4) rfl)), fun _ q => nomatch q⟩ trivial
  have hq : ReturnedEndW _ _ _ _ _ _ := hq0
  refine ⟨n, _, h1, h2, h3, hpost _ _ _ _ _ _ ⟨Cond.after_iff.mpr rfl, Cond.after_iff.mpr (eq_i res_at (Term.int_eval (1)) rfl), trivial⟩ ⟨hq.1, hq.2.1, hq.2.2.1, (hq.2.2.2.sift fun y hy => Or.inr (N y hy)).mono (by decide) (by decide)⟩⟩
theorem main_1_1 : Claimed_1_1 := comes_1 fun _ _ _ _ _ _ h hF => ⟨h.1, hF⟩
theorem main_1_2 : Claimed_1_2 := comes_1 fun _ _ _ _ _ _ h hF => ⟨h.2.1, hF⟩
end Jvm.Pilot.@@N@@
namespace Jvm.Pilot.@@N@@
open Jvm Jvm.ClassFile Sem Op Lib Jvm.Free Jvm.Stand Jvm.Pilot.@@N@@.Jvm.D
/-! MADE BY PROGRAM (witnessworld.py) out of the Statement's table words and the real class files: 21 classes; the members and pool entries that the words name. The judged class is class 1, her method 1. -/
namespace start1
open Jvm.ClassFile
def u (s : String) : CpInfo := .utf8 (stringToUtf16 s)
/-- a pool by its gaps: so many unusable entries, then the entry; so many at the end -/
def gap : Nat → List CpInfo → List CpInfo
  | 0, r => r
  | n + 1, r => .unusable :: gap n r
def poolList (es : List (Nat × CpInfo)) (last : Nat) : List CpInfo := es.foldr (fun e r => gap e.1 (e.2 :: r)) (gap last [])
def pool (es : List (Nat × CpInfo)) (last : Nat) : Array CpInfo := ⟨poolList es last⟩
def fileOf (pool : Array CpInfo) (this : Nat) (attrs : Array Attribute := #[]) (ms : Array MethodInfo := #[]) (fl : Nat := 33) (sup : Nat := 0) (ifs : Array Nat := #[]) (fds : Array FieldInfo := #[]) : ClassFile where
  minorVersion := 0
  majorVersion := 65
  constantPool := pool
  accessFlags := fl
  thisClass := this
  superClass := sup
  interfaces := ifs
  fields := fds
  methods := ms
  attributes := attrs
def plain (name : String) (sup : Option ClassId) : Class where
  name := name
  kind := .ordinary
  loader := none
  accessFlags := 33
  super := sup
  interfaces := #[]
  cf := none
  fields := #[]
  methods := #[]
  instanceTypes := #[]
  staticTypes := #[]
  resolved := #[]
  callSites := []
  init := .initialized
  statics := none
  mirror := none

def pool0 : Array CpInfo := pool [(5, u "<init>"), (0, u "()V"), (1, .class_ 10), (1, u "java/lang/Object")] 113

def k0c0 : Code := { maxStack := 0, maxLocals := 1, code := object_method_1_code, exceptionTable := #[], attributes := #[] }
def k0m0 : Method := { name := "<init>", desc := "()V", sig := { parameters := [], returnType := none }, accessFlags := 1, code := some k0c0 }
/-- java/lang/Object -/
def k0 : Class := { plain "java/lang/Object" none with
  accessFlags := 33
  interfaces := #[]
  cf := some (fileOf pool0 8 #[] #[{ accessFlags := 1, nameIndex := 5, descriptorIndex := 6, attributes := #[] }] 33 0 #[] #[])
  fields := #[]
  methods := #[k0m0]
  instanceTypes := #[]
  staticTypes := #[]
  resolved := Array.replicate 124 none
  statics := none }

def pool1 : Array CpInfo := pool [(2, .class_ 4), (1, u "java/lang/Object"), (0, u "<init>"), (0, u "()V"), (0, .integer 2147483647), (0, .integer 65535), (0, .class_ 10), (0, u "java/lang/String"), (0, .methodref 9 12), (0, .nameAndType 5 13), (0, u "([C)V"), (0, .methodref 15 16), (0, .class_ 17), (0, .nameAndType 18 19), (0, u "com/example/grantline/grantline/permission/PathSyntax"), (0, u "startsWithDrive"), (0, u "(Ljava/lang/String;)Z"), (0, .class_ 21), (0, u "com/example/grantline/grantline/permission/PathSyntaxStartsWithDrivePinLaw"), (2, u "law"), (0, u "(IIII)Z")] 5

def k1m0 : Method := { name := "<init>", desc := "()V", sig := { parameters := [], returnType := none }, accessFlags := 1, code := none }
def k1c1 : Code := { maxStack := 4, maxLocals := 13, code := code, exceptionTable := #[], attributes := #[] }
def k1m1 : Method := { name := "law", desc := "(IIII)Z", sig := { parameters := [.int, .int, .int, .int], returnType := some .boolean }, accessFlags := 9, code := some k1c1 }
/-- com/example/grantline/grantline/permission/PathSyntaxStartsWithDrivePinLaw -/
def k1 : Class := { plain "com/example/grantline/grantline/permission/PathSyntaxStartsWithDrivePinLaw" (some 0) with
  accessFlags := 49
  interfaces := #[]
  cf := some (fileOf pool1 20 #[] #[{ accessFlags := 1, nameIndex := 5, descriptorIndex := 6, attributes := #[] }, { accessFlags := 9, nameIndex := 24, descriptorIndex := 25, attributes := #[] }] 49 2 #[] #[])
  fields := #[]
  methods := #[k1m0, k1m1]
  instanceTypes := #[]
  staticTypes := #[]
  resolved := Array.replicate 31 none
  statics := none }

def pool2 : Array CpInfo := pool [(1, .class_ 2), (0, u "java/io/Serializable"), (0, .class_ 4), (0, u "java/lang/Object")] 2

/-- java/io/Serializable -/
def k2 : Class := { plain "java/io/Serializable" (some 0) with
  accessFlags := 1537
  interfaces := #[]
  cf := some (fileOf pool2 1 #[] #[] 1537 3 #[] #[])
  fields := #[]
  methods := #[]
  instanceTypes := #[]
  staticTypes := #[]
  resolved := Array.replicate 7 none
  statics := none }

def pool3 : Array CpInfo := pool [(1, .class_ 2), (0, u "java/lang/Comparable"), (0, .class_ 4), (0, u "java/lang/Object")] 7

/-- java/lang/Comparable -/
def k3 : Class := { plain "java/lang/Comparable" (some 0) with
  accessFlags := 1537
  interfaces := #[]
  cf := some (fileOf pool3 1 #[] #[] 1537 3 #[] #[])
  fields := #[]
  methods := #[]
  instanceTypes := #[]
  staticTypes := #[]
  resolved := Array.replicate 12 none
  statics := none }

def pool4 : Array CpInfo := pool [(2, .class_ 4), (1, u "java/lang/CharSequence"), (42, .class_ 48), (0, u "java/lang/CharSequence$1CodePointIterator"), (10, .class_ 60), (0, u "java/lang/CharSequence$1CharIterator"), (5, .class_ 67), (0, u "java/lang/Object")] 63

/-- java/lang/CharSequence -/
def k4 : Class := { plain "java/lang/CharSequence" (some 0) with
  accessFlags := 1537
  interfaces := #[]
  cf := some (fileOf pool4 2 #[.nestMembers #[47, 59]] #[] 1537 66 #[] #[])
  fields := #[]
  methods := #[]
  instanceTypes := #[]
  staticTypes := #[]
  resolved := Array.replicate 131 none
  statics := none }

def pool5 : Array CpInfo := pool [(1, .class_ 2), (0, u "java/lang/constant/Constable"), (0, .class_ 4), (0, u "java/lang/Object")] 6

/-- java/lang/constant/Constable -/
def k5 : Class := { plain "java/lang/constant/Constable" (some 0) with
  accessFlags := 1537
  interfaces := #[]
  cf := some (fileOf pool5 1 #[] #[] 1537 3 #[] #[])
  fields := #[]
  methods := #[]
  instanceTypes := #[]
  staticTypes := #[]
  resolved := Array.replicate 11 none
  statics := none }

def pool6 : Array CpInfo := pool [(1, .class_ 2), (0, u "java/lang/constant/ConstantDesc"), (0, .class_ 4), (0, u "java/lang/Object")] 32

/-- java/lang/constant/ConstantDesc -/
def k6 : Class := { plain "java/lang/constant/ConstantDesc" (some 0) with
  accessFlags := 1537
  interfaces := #[]
  cf := some (fileOf pool6 1 #[] #[] 1537 3 #[] #[])
  fields := #[]
  methods := #[]
  instanceTypes := #[]
  staticTypes := #[]
  resolved := Array.replicate 37 none
  statics := none }

def pool7 : Array CpInfo := pool [(1, .methodref 2 3), (0, .class_ 4), (0, .nameAndType 5 6), (0, u "java/lang/Object"), (0, u "<init>"), (0, u "()V"), (0, .string 8), (0, u ""), (0, .fieldref 10 11), (0, .class_ 12), (0, .nameAndType 13 14), (0, u "java/lang/String"), (0, u "value"), (0, u "[B"), (0, .fieldref 10 16), (0, .nameAndType 17 18), (0, u "coder"), (0, u "B"), (2, u "hash"), (0, u "I"), (2, u "hashIsZero"), (0, u "Z"), (0, .methodref 10 28), (0, .nameAndType 5 29), (0, u "([CIILjava/lang/Void;)V"), (8, .fieldref 10 39), (0, .nameAndType 40 26), (0, u "COMPACT_STRINGS"), (1, .class_ 44), (1, u "java/lang/StringUTF16"), (0, u "compress"), (1, .methodref 42 48), (0, .nameAndType 49 50), (0, u "coderFromArrayLen"), (0, u "([BI)B"), (56, .class_ 109), (1, u "java/lang/StringLatin1"), (32, u "()Z"), (34, .methodref 42 178), (0, .nameAndType 45 179), (0, u "([CII)[B"), (154, u "()I"), (0, .methodref 10 336), (0, .nameAndType 17 337), (0, u "()B"), (25, u "([BI)C"), (27, u "(II)V"), (35, u "(I)C"), (64, .methodref 10 493), (0, .nameAndType 494 142), (0, u "isLatin1"), (0, .methodref 107 496), (0, .nameAndType 497 363), (0, u "charAt"), (0, .methodref 42 496), (2, u "checkIndex"), (5, u "length"), (67, .class_ 576), (0, u "java/lang/CharSequence"), (22, u "CASE_INSENSITIVE_ORDER"), (0, u "Ljava/util/Comparator;"), (409, u "([C)V"), (42, .fieldref 1054 1055), (0, .class_ 1056), (0, .nameAndType 1057 1058), (0, u "jdk/internal/util/Preconditions"), (0, u "SIOOBE_FORMATTER"), (0, u "Ljava/util/function/BiFunction;"), (0, .methodref 1054 1060), (0, .nameAndType 501 1061), (0, u "(IILjava/util/function/BiFunction;)I"), (39, u "serialPersistentFields"), (0, u "[Ljava/io/ObjectStreamField;"), (0, .class_ 1104), (0, u "java/lang/String$CaseInsensitiveComparator"), (1, .class_ 1107), (0, u "java/io/Serializable"), (0, .class_ 1109), (0, u "java/lang/Comparable"), (0, .class_ 1111), (0, u "java/lang/constant/Constable"), (0, .class_ 1113), (0, u "java/lang/constant/ConstantDesc"), (2, u "serialVersionUID"), (0, u "J"), (3, u "REPL"), (0, u "C"), (2, u "LATIN1"), (1, u "UTF16")] 323

def k7m0 : Method := { name := "<init>", desc := "()V", sig := { parameters := [], returnType := none }, accessFlags := 1, code := none }
def k7c1 : Code := { maxStack := 5, maxLocals := 2, code := jdk_42_method_3_code, exceptionTable := #[], attributes := #[] }
def k7m1 : Method := { name := "<init>", desc := "([C)V", sig := { parameters := [(.array .char)], returnType := none }, accessFlags := 1, code := some k7c1 }
def k7c2 : Code := { maxStack := 2, maxLocals := 1, code := jdk_42_method_54_code, exceptionTable := #[], attributes := #[] }
def k7m2 : Method := { name := "length", desc := "()I", sig := { parameters := [], returnType := some .int }, accessFlags := 1, code := some k7c2 }
def k7c3 : Code := { maxStack := 2, maxLocals := 2, code := jdk_42_method_56_code, exceptionTable := #[], attributes := #[] }
def k7m3 : Method := { name := "charAt", desc := "(I)C", sig := { parameters := [.int], returnType := some .char }, accessFlags := 1, code := some k7c3 }
def k7c4 : Code := { maxStack := 4, maxLocals := 6, code := jdk_42_method_149_code, exceptionTable := #[], attributes := #[] }
def k7m4 : Method := { name := "<init>", desc := "([CIILjava/lang/Void;)V", sig := { parameters := [(.array .char), .int, .int, (.object "java/lang/Void")], returnType := none }, accessFlags := 2, code := some k7c4 }
def k7c5 : Code := { maxStack := 1, maxLocals := 1, code := jdk_42_method_152_code, exceptionTable := #[], attributes := #[] }
def k7m5 : Method := { name := "coder", desc := "()B", sig := { parameters := [], returnType := some .byte }, accessFlags := 0, code := some k7c5 }
def k7c6 : Code := { maxStack := 1, maxLocals := 1, code := jdk_42_method_154_code, exceptionTable := #[], attributes := #[] }
def k7m6 : Method := { name := "isLatin1", desc := "()Z", sig := { parameters := [], returnType := some .boolean }, accessFlags := 0, code := some k7c6 }
def k7c7 : Code := { maxStack := 3, maxLocals := 2, code := jdk_42_method_155_code, exceptionTable := #[], attributes := #[] }
def k7m7 : Method := { name := "checkIndex", desc := "(II)V", sig := { parameters := [.int, .int], returnType := none }, accessFlags := 8, code := some k7c7 }
/-- java/lang/String -/
def k7 : Class := { plain "java/lang/String" (some 0) with
  accessFlags := 49
  interfaces := #[2, 3, 4, 5, 6]
  cf := some (fileOf pool7 10 #[.nestMembers #[1103]] #[{ accessFlags := 1, nameIndex := 5, descriptorIndex := 6, attributes := #[] }, { accessFlags := 1, nameIndex := 5, descriptorIndex := 1010, attributes := #[] }, { accessFlags := 1, nameIndex := 507, descriptorIndex := 334, attributes := #[] }, { accessFlags := 1, nameIndex := 497, descriptorIndex := 427, attributes := #[] }, { accessFlags := 2, nameIndex := 5, descriptorIndex := 29, attributes := #[] }, { accessFlags := 0, nameIndex := 17, descriptorIndex := 337, attributes := #[] }, { accessFlags := 0, nameIndex := 494, descriptorIndex := 142, attributes := #[] }, { accessFlags := 8, nameIndex := 501, descriptorIndex := 391, attributes := #[] }] 49 2 #[1106, 1108, 575, 1110, 1112] #[{ accessFlags := 18, nameIndex := 13, descriptorIndex := 14, attributes := #[] }, { accessFlags := 18, nameIndex := 17, descriptorIndex := 18, attributes := #[] }, { accessFlags := 2, nameIndex := 21, descriptorIndex := 22, attributes := #[] }, { accessFlags := 2, nameIndex := 25, descriptorIndex := 26, attributes := #[] }, { accessFlags := 26, nameIndex := 1116, descriptorIndex := 1117, attributes := #[] }, { accessFlags := 24, nameIndex := 40, descriptorIndex := 26, attributes := #[] }, { accessFlags := 26, nameIndex := 1101, descriptorIndex := 1102, attributes := #[] }, { accessFlags := 26, nameIndex := 1121, descriptorIndex := 1122, attributes := #[] }, { accessFlags := 25, nameIndex := 599, descriptorIndex := 600, attributes := #[] }, { accessFlags := 24, nameIndex := 1125, descriptorIndex := 18, attributes := #[] }, { accessFlags := 24, nameIndex := 1127, descriptorIndex := 18, attributes := #[] }])
  fields := #[{ name := "value", type := (.array .byte), accessFlags := 18, slot := 0, constantValue := 0 }, { name := "coder", type := .byte, accessFlags := 18, slot := 1, constantValue := 0 }, { name := "hash", type := .int, accessFlags := 2, slot := 2, constantValue := 0 }, { name := "hashIsZero", type := .boolean, accessFlags := 2, slot := 3, constantValue := 0 }, { name := "serialVersionUID", type := .long, accessFlags := 26, slot := 0, constantValue := 0 }, { name := "COMPACT_STRINGS", type := .boolean, accessFlags := 24, slot := 1, constantValue := 0 }, { name := "serialPersistentFields", type := (.array (.object "java/io/ObjectStreamField")), accessFlags := 26, slot := 2, constantValue := 0 }, { name := "REPL", type := .char, accessFlags := 26, slot := 3, constantValue := 0 }, { name := "CASE_INSENSITIVE_ORDER", type := (.object "java/util/Comparator"), accessFlags := 25, slot := 4, constantValue := 0 }, { name := "LATIN1", type := .byte, accessFlags := 24, slot := 5, constantValue := 0 }, { name := "UTF16", type := .byte, accessFlags := 24, slot := 6, constantValue := 0 }]
  methods := #[k7m0, k7m1, k7m2, k7m3, k7m4, k7m5, k7m6, k7m7]
  instanceTypes := #[(.array .byte), .byte, .int, .boolean]
  staticTypes := #[.long, .boolean, (.array (.object "java/io/ObjectStreamField")), .char, (.object "java/util/Comparator"), .byte, .byte]
  resolved := Array.replicate 1451 none
  statics := some 0 }

def pool8 : Array CpInfo := pool [(2, .class_ 4), (1, u "java/lang/Enum"), (0, u "name"), (0, u "Ljava/lang/String;"), (2, u "ordinal"), (0, u "I"), (1, .class_ 14), (1, u "java/lang/Object"), (4, u "hash"), (86, .class_ 108), (1, u "java/lang/Enum$EnumDesc"), (2, .class_ 112), (0, u "java/lang/constant/Constable"), (0, .class_ 114), (0, u "java/lang/Comparable"), (0, .class_ 116), (0, u "java/io/Serializable")] 87

/-- java/lang/Enum -/
def k8 : Class := { plain "java/lang/Enum" (some 0) with
  accessFlags := 1057
  interfaces := #[5, 3, 2]
  cf := some (fileOf pool8 2 #[.nestMembers #[106]] #[] 1057 12 #[111, 113, 115] #[{ accessFlags := 18, nameIndex := 5, descriptorIndex := 6, attributes := #[] }, { accessFlags := 18, nameIndex := 9, descriptorIndex := 10, attributes := #[] }, { accessFlags := 2, nameIndex := 19, descriptorIndex := 10, attributes := #[] }])
  fields := #[{ name := "name", type := (.object "java/lang/String"), accessFlags := 18, slot := 0, constantValue := 0 }, { name := "ordinal", type := .int, accessFlags := 18, slot := 1, constantValue := 0 }, { name := "hash", type := .int, accessFlags := 2, slot := 2, constantValue := 0 }]
  methods := #[]
  instanceTypes := #[(.object "java/lang/String"), .int, .int]
  staticTypes := #[]
  resolved := Array.replicate 204 none
  statics := none }

def pool9 : Array CpInfo := pool [(1, .class_ 2), (0, u "com/example/grantline/grantline/permission/PathSyntax"), (2, u "UNIX"), (0, u "Lcom/example/grantline/grantline/permission/PathSyntax;"), (2, u "WINDOWS"), (2, u "$VALUES"), (0, u "[Lcom/example/grantline/grantline/permission/PathSyntax;"), (6, .class_ 22), (1, u "java/lang/Enum"), (8, u "separator"), (0, u "C"), (2, u "separators"), (0, u "Ljava/lang/String;"), (10, .class_ 49), (1, u "java/lang/String"), (14, .methodref 47 65), (0, .nameAndType 66 67), (0, u "length"), (0, u "()I"), (0, .methodref 47 69), (0, .nameAndType 70 71), (0, u "charAt"), (0, u "(I)C"), (9, u "(Ljava/lang/String;)Z"), (6, u "startsWithDrive")] 110

def k9c0 : Code := { maxStack := 2, maxLocals := 2, code := prog_30_method_9_code, exceptionTable := #[], attributes := #[] }
def k9m0 : Method := { name := "startsWithDrive", desc := "(Ljava/lang/String;)Z", sig := { parameters := [(.object "java/lang/String")], returnType := some .boolean }, accessFlags := 9, code := some k9c0 }
/-- com/example/grantline/grantline/permission/PathSyntax -/
def k9 : Class := { plain "com/example/grantline/grantline/permission/PathSyntax" (some 8) with
  accessFlags := 16433
  interfaces := #[]
  cf := some (fileOf pool9 1 #[] #[{ accessFlags := 9, nameIndex := 88, descriptorIndex := 81, attributes := #[] }] 16433 20 #[] #[{ accessFlags := 16409, nameIndex := 5, descriptorIndex := 6, attributes := #[] }, { accessFlags := 16409, nameIndex := 9, descriptorIndex := 6, attributes := #[] }, { accessFlags := 18, nameIndex := 31, descriptorIndex := 32, attributes := #[] }, { accessFlags := 18, nameIndex := 35, descriptorIndex := 36, attributes := #[] }, { accessFlags := 4122, nameIndex := 12, descriptorIndex := 13, attributes := #[] }])
  fields := #[{ name := "UNIX", type := (.object "com/example/grantline/grantline/permission/PathSyntax"), accessFlags := 16409, slot := 0, constantValue := 0 }, { name := "WINDOWS", type := (.object "com/example/grantline/grantline/permission/PathSyntax"), accessFlags := 16409, slot := 1, constantValue := 0 }, { name := "separator", type := .char, accessFlags := 18, slot := 3, constantValue := 0 }, { name := "separators", type := (.object "java/lang/String"), accessFlags := 18, slot := 4, constantValue := 0 }, { name := "$VALUES", type := (.array (.object "com/example/grantline/grantline/permission/PathSyntax")), accessFlags := 4122, slot := 2, constantValue := 0 }]
  methods := #[k9m0]
  instanceTypes := #[(.object "java/lang/String"), .int, .int, .char, (.object "java/lang/String")]
  staticTypes := #[(.object "com/example/grantline/grantline/permission/PathSyntax"), (.object "com/example/grantline/grantline/permission/PathSyntax"), (.array (.object "com/example/grantline/grantline/permission/PathSyntax"))]
  resolved := Array.replicate 199 none
  statics := none }

def pool10 : Array CpInfo := pool [(3, .class_ 4), (0, u "java/lang/String"), (1, .class_ 8), (1, u "java/lang/Object"), (0, u "<init>"), (0, u "()V"), (0, .methodref 12 13), (0, .class_ 14), (0, .nameAndType 15 16), (0, u "java/lang/StringUTF16"), (0, u "newBytesLength"), (0, u "(I)I"), (3, .integer 1073741823), (23, .fieldref 12 45), (0, .nameAndType 46 47), (0, u "$assertionsDisabled"), (0, u "Z"), (0, .methodref 12 49), (0, .nameAndType 50 51), (0, u "length"), (0, u "([B)I"), (7, .fieldref 12 60), (0, .nameAndType 61 62), (0, u "HI_BYTE_SHIFT"), (0, u "I"), (0, .fieldref 12 64), (0, .nameAndType 65 62), (0, u "LO_BYTE_SHIFT"), (1, .methodref 12 68), (0, .nameAndType 69 70), (0, u "checkIndex"), (0, u "(I[B)V"), (0, .methodref 12 72), (0, .nameAndType 73 74), (0, u "getChar"), (0, u "([BI)C"), (32, .methodref 12 108), (0, .nameAndType 109 110), (0, u "newBytesFor"), (0, u "(I)[B"), (0, .methodref 12 112), (0, .nameAndType 113 114), (0, u "putChar"), (0, u "([BII)V"), (0, .methodref 12 116), (0, .nameAndType 117 118), (0, u "compress"), (0, u "([CI[BII)I"), (0, .methodref 12 120), (0, .nameAndType 121 122), (0, u "toBytes"), (0, u "([CII)[B"), (138, u "coderFromArrayLen"), (0, u "([BI)B"), (106, .class_ 371), (1, u "java/lang/StringUTF16$LinesSpliterator"), (20, u "charAt"), (21, .methodref 3 415), (0, .nameAndType 69 416), (0, u "(II)V"), (13, u "MAX_LENGTH"), (196, .class_ 628), (0, u "java/lang/StringUTF16$CodePointsSpliterator"), (0, .class_ 630), (0, u "java/lang/StringUTF16$CharsSpliterator")] 4

def k10m0 : Method := { name := "<init>", desc := "()V", sig := { parameters := [], returnType := none }, accessFlags := 0, code := none }
def k10c1 : Code := { maxStack := 1, maxLocals := 1, code := jdk_52_method_2_code, exceptionTable := #[], attributes := #[] }
def k10m1 : Method := { name := "newBytesFor", desc := "(I)[B", sig := { parameters := [.int], returnType := some (.array .byte) }, accessFlags := 9, code := some k10c1 }
def k10c2 : Code := { maxStack := 4, maxLocals := 1, code := jdk_52_method_3_code, exceptionTable := #[], attributes := #[] }
def k10m2 : Method := { name := "newBytesLength", desc := "(I)I", sig := { parameters := [.int], returnType := some .int }, accessFlags := 9, code := some k10c2 }
def k10c3 : Code := { maxStack := 4, maxLocals := 3, code := jdk_52_method_4_code, exceptionTable := #[], attributes := #[] }
def k10m3 : Method := { name := "putChar", desc := "([BII)V", sig := { parameters := [(.array .byte), .int, .int], returnType := none }, accessFlags := 8, code := some k10c3 }
def k10c4 : Code := { maxStack := 3, maxLocals := 2, code := jdk_52_method_5_code, exceptionTable := #[], attributes := #[] }
def k10m4 : Method := { name := "getChar", desc := "([BI)C", sig := { parameters := [(.array .byte), .int], returnType := some .char }, accessFlags := 8, code := some k10c4 }
def k10c5 : Code := { maxStack := 2, maxLocals := 1, code := jdk_52_method_6_code, exceptionTable := #[], attributes := #[] }
def k10m5 : Method := { name := "length", desc := "([B)I", sig := { parameters := [(.array .byte)], returnType := some .int }, accessFlags := 9, code := some k10c5 }
def k10c6 : Code := { maxStack := 4, maxLocals := 5, code := jdk_52_method_14_code, exceptionTable := #[], attributes := #[] }
def k10m6 : Method := { name := "toBytes", desc := "([CII)[B", sig := { parameters := [(.array .char), .int, .int], returnType := some (.array .byte) }, accessFlags := 9, code := some k10c6 }
def k10c7 : Code := { maxStack := 2, maxLocals := 2, code := jdk_52_method_15_code, exceptionTable := #[], attributes := #[] }
def k10m7 : Method := { name := "coderFromArrayLen", desc := "([BI)B", sig := { parameters := [(.array .byte), .int], returnType := some .byte }, accessFlags := 8, code := some k10c7 }
def k10c8 : Code := { maxStack := 5, maxLocals := 6, code := jdk_52_method_16_code, exceptionTable := #[], attributes := #[] }
def k10m8 : Method := { name := "compress", desc := "([CII)[B", sig := { parameters := [(.array .char), .int, .int], returnType := some (.array .byte) }, accessFlags := 9, code := some k10c8 }
def k10c9 : Code := { maxStack := 3, maxLocals := 7, code := jdk_52_method_21_code, exceptionTable := #[], attributes := #[] }
def k10m9 : Method := { name := "compress", desc := "([CI[BII)I", sig := { parameters := [(.array .char), .int, (.array .byte), .int, .int], returnType := some .int }, accessFlags := 9, code := some k10c9 }
def k10c10 : Code := { maxStack := 2, maxLocals := 2, code := jdk_52_method_83_code, exceptionTable := #[], attributes := #[] }
def k10m10 : Method := { name := "charAt", desc := "([BI)C", sig := { parameters := [(.array .byte), .int], returnType := some .char }, accessFlags := 9, code := some k10c10 }
def k10c11 : Code := { maxStack := 2, maxLocals := 2, code := jdk_52_method_91_code, exceptionTable := #[], attributes := #[] }
def k10m11 : Method := { name := "checkIndex", desc := "(I[B)V", sig := { parameters := [.int, (.array .byte)], returnType := none }, accessFlags := 9, code := some k10c11 }
/-- java/lang/StringUTF16 -/
def k10 : Class := { plain "java/lang/StringUTF16" (some 0) with
  accessFlags := 48
  interfaces := #[]
  cf := some (fileOf pool10 12 #[.nestMembers #[627, 629, 369]] #[{ accessFlags := 0, nameIndex := 9, descriptorIndex := 10, attributes := #[] }, { accessFlags := 9, nameIndex := 109, descriptorIndex := 110, attributes := #[] }, { accessFlags := 9, nameIndex := 15, descriptorIndex := 16, attributes := #[] }, { accessFlags := 8, nameIndex := 113, descriptorIndex := 114, attributes := #[] }, { accessFlags := 8, nameIndex := 73, descriptorIndex := 74, attributes := #[] }, { accessFlags := 9, nameIndex := 50, descriptorIndex := 51, attributes := #[] }, { accessFlags := 9, nameIndex := 121, descriptorIndex := 122, attributes := #[] }, { accessFlags := 8, nameIndex := 261, descriptorIndex := 262, attributes := #[] }, { accessFlags := 9, nameIndex := 117, descriptorIndex := 122, attributes := #[] }, { accessFlags := 9, nameIndex := 117, descriptorIndex := 118, attributes := #[] }, { accessFlags := 9, nameIndex := 392, descriptorIndex := 74, attributes := #[] }, { accessFlags := 9, nameIndex := 69, descriptorIndex := 70, attributes := #[] }] 48 6 #[] #[{ accessFlags := 26, nameIndex := 61, descriptorIndex := 62, attributes := #[] }, { accessFlags := 26, nameIndex := 65, descriptorIndex := 62, attributes := #[] }, { accessFlags := 24, nameIndex := 430, descriptorIndex := 62, attributes := #[] }, { accessFlags := 4120, nameIndex := 46, descriptorIndex := 47, attributes := #[] }])
  fields := #[{ name := "HI_BYTE_SHIFT", type := .int, accessFlags := 26, slot := 0, constantValue := 0 }, { name := "LO_BYTE_SHIFT", type := .int, accessFlags := 26, slot := 1, constantValue := 0 }, { name := "MAX_LENGTH", type := .int, accessFlags := 24, slot := 2, constantValue := 0 }, { name := "$assertionsDisabled", type := .boolean, accessFlags := 4120, slot := 3, constantValue := 0 }]
  methods := #[k10m0, k10m1, k10m2, k10m3, k10m4, k10m5, k10m6, k10m7, k10m8, k10m9, k10m10, k10m11]
  instanceTypes := #[]
  staticTypes := #[.int, .int, .int, .boolean]
  resolved := Array.replicate 635 none
  statics := some 1 }

def pool11 : Array CpInfo := pool [(1, .class_ 2), (0, u "java/lang/String"), (1, .class_ 6), (1, u "java/lang/Object"), (0, u "<init>"), (0, u "()V"), (0, .methodref 1 10), (0, .nameAndType 11 12), (0, u "checkIndex"), (0, u "(II)V"), (1, .class_ 16), (1, u "java/lang/StringLatin1"), (36, u "([BI)C"), (67, u "$assertionsDisabled"), (0, u "Z"), (98, .class_ 223), (1, u "java/lang/StringLatin1$LinesSpliterator"), (28, u "charAt"), (137, .class_ 391), (0, u "java/lang/StringLatin1$CharsSpliterator")] 3

def k11m0 : Method := { name := "<init>", desc := "()V", sig := { parameters := [], returnType := none }, accessFlags := 0, code := none }
def k11c1 : Code := { maxStack := 2, maxLocals := 2, code := jdk_43_method_2_code, exceptionTable := #[], attributes := #[] }
def k11m1 : Method := { name := "charAt", desc := "([BI)C", sig := { parameters := [(.array .byte), .int], returnType := some .char }, accessFlags := 9, code := some k11c1 }
/-- java/lang/StringLatin1 -/
def k11 : Class := { plain "java/lang/StringLatin1" (some 0) with
  accessFlags := 48
  interfaces := #[]
  cf := some (fileOf pool11 14 #[.nestMembers #[390, 221]] #[{ accessFlags := 0, nameIndex := 7, descriptorIndex := 8, attributes := #[] }, { accessFlags := 9, nameIndex := 252, descriptorIndex := 53, attributes := #[] }] 48 4 #[] #[{ accessFlags := 4120, nameIndex := 121, descriptorIndex := 122, attributes := #[] }])
  fields := #[{ name := "$assertionsDisabled", type := .boolean, accessFlags := 4120, slot := 0, constantValue := 0 }]
  methods := #[k11m0, k11m1]
  instanceTypes := #[]
  staticTypes := #[.boolean]
  resolved := Array.replicate 395 none
  statics := none }

def pool12 : Array CpInfo := pool [(2, .class_ 4), (1, u "java/lang/Object"), (0, u "<init>"), (0, u "()V"), (17, .class_ 26), (1, u "jdk/internal/util/Preconditions"), (6, u "checkIndex"), (21, .class_ 56), (0, u "jdk/internal/util/Preconditions$4"), (57, .class_ 115), (0, u "jdk/internal/util/Preconditions$1"), (7, u "SIOOBE_FORMATTER"), (0, u "Ljava/util/function/BiFunction;"), (0, .class_ 126), (0, u "jdk/internal/util/Preconditions$2"), (3, u "AIOOBE_FORMATTER"), (0, .class_ 132), (0, u "jdk/internal/util/Preconditions$3"), (3, u "IOOBE_FORMATTER"), (41, u "(IILjava/util/function/BiFunction;)I")] 15

def k12m0 : Method := { name := "<init>", desc := "()V", sig := { parameters := [], returnType := none }, accessFlags := 1, code := none }
def k12c1 : Code := { maxStack := 3, maxLocals := 3, code := jdk_41_method_11_code, exceptionTable := #[], attributes := #[] }
def k12m1 : Method := { name := "checkIndex", desc := "(IILjava/util/function/BiFunction;)I", sig := { parameters := [.int, .int, (.object "java/util/function/BiFunction")], returnType := some .int }, accessFlags := 9, code := some k12c1 }
/-- jdk/internal/util/Preconditions -/
def k12 : Class := { plain "jdk/internal/util/Preconditions" (some 0) with
  accessFlags := 33
  interfaces := #[]
  cf := some (fileOf pool12 24 #[.nestMembers #[55, 131, 125, 114]] #[{ accessFlags := 1, nameIndex := 5, descriptorIndex := 6, attributes := #[] }, { accessFlags := 9, nameIndex := 33, descriptorIndex := 178, attributes := #[] }] 33 2 #[] #[{ accessFlags := 25, nameIndex := 123, descriptorIndex := 124, attributes := #[] }, { accessFlags := 25, nameIndex := 130, descriptorIndex := 124, attributes := #[] }, { accessFlags := 25, nameIndex := 136, descriptorIndex := 124, attributes := #[] }])
  fields := #[{ name := "SIOOBE_FORMATTER", type := (.object "java/util/function/BiFunction"), accessFlags := 25, slot := 0, constantValue := 0 }, { name := "AIOOBE_FORMATTER", type := (.object "java/util/function/BiFunction"), accessFlags := 25, slot := 1, constantValue := 0 }, { name := "IOOBE_FORMATTER", type := (.object "java/util/function/BiFunction"), accessFlags := 25, slot := 2, constantValue := 0 }]
  methods := #[k12m0, k12m1]
  instanceTypes := #[]
  staticTypes := #[(.object "java/util/function/BiFunction"), (.object "java/util/function/BiFunction"), (.object "java/util/function/BiFunction")]
  resolved := Array.replicate 194 none
  statics := some 2 }

def pool13 : Array CpInfo := pool [(9, u "<init>"), (6, .class_ 18), (1, u "java/lang/Object"), (0, u "()V"), (1, .class_ 23), (1, u "jdk/internal/util/ArraysSupport"), (0, u "LOG2_ARRAY_LONG_INDEX_SCALE"), (0, u "I"), (2, u "U"), (0, u "Ljdk/internal/misc/Unsafe;"), (8, u "BIG_ENDIAN"), (0, u "Z"), (8, u "LOG2_BYTE_BIT_SIZE"), (4, u "LOG2_ARRAY_INT_INDEX_SCALE"), (54, u "JLA"), (0, u "Ljdk/internal/access/JavaLangAccess;"), (11, u "LOG2_ARRAY_BOOLEAN_INDEX_SCALE"), (9, u "LOG2_ARRAY_BYTE_INDEX_SCALE"), (5, u "LOG2_ARRAY_CHAR_INDEX_SCALE"), (5, u "LOG2_ARRAY_SHORT_INDEX_SCALE"), (18, u "LOG2_ARRAY_FLOAT_INDEX_SCALE"), (24, u "LOG2_ARRAY_DOUBLE_INDEX_SCALE"), (89, u "T_BOOLEAN"), (2, u "T_CHAR"), (1, u "T_FLOAT"), (1, u "T_DOUBLE"), (1, u "T_BYTE"), (1, u "T_SHORT"), (1, u "T_INT"), (1, u "T_LONG"), (1, u "SOFT_MAX_ARRAY_LENGTH")] 83

def k13m0 : Method := { name := "<init>", desc := "()V", sig := { parameters := [], returnType := none }, accessFlags := 2, code := none }
/-- jdk/internal/util/ArraysSupport -/
def k13 : Class := { plain "jdk/internal/util/ArraysSupport" (some 0) with
  accessFlags := 33
  interfaces := #[]
  cf := some (fileOf pool13 21 #[] #[{ accessFlags := 2, nameIndex := 9, descriptorIndex := 19, attributes := #[] }] 33 16 #[] #[{ accessFlags := 24, nameIndex := 28, descriptorIndex := 29, attributes := #[] }, { accessFlags := 26, nameIndex := 38, descriptorIndex := 39, attributes := #[] }, { accessFlags := 25, nameIndex := 121, descriptorIndex := 25, attributes := #[] }, { accessFlags := 25, nameIndex := 131, descriptorIndex := 25, attributes := #[] }, { accessFlags := 25, nameIndex := 137, descriptorIndex := 25, attributes := #[] }, { accessFlags := 25, nameIndex := 143, descriptorIndex := 25, attributes := #[] }, { accessFlags := 25, nameIndex := 53, descriptorIndex := 25, attributes := #[] }, { accessFlags := 25, nameIndex := 24, descriptorIndex := 25, attributes := #[] }, { accessFlags := 25, nameIndex := 162, descriptorIndex := 25, attributes := #[] }, { accessFlags := 25, nameIndex := 187, descriptorIndex := 25, attributes := #[] }, { accessFlags := 26, nameIndex := 48, descriptorIndex := 25, attributes := #[] }, { accessFlags := 25, nameIndex := 277, descriptorIndex := 25, attributes := #[] }, { accessFlags := 25, nameIndex := 280, descriptorIndex := 25, attributes := #[] }, { accessFlags := 25, nameIndex := 282, descriptorIndex := 25, attributes := #[] }, { accessFlags := 25, nameIndex := 284, descriptorIndex := 25, attributes := #[] }, { accessFlags := 25, nameIndex := 286, descriptorIndex := 25, attributes := #[] }, { accessFlags := 25, nameIndex := 288, descriptorIndex := 25, attributes := #[] }, { accessFlags := 25, nameIndex := 290, descriptorIndex := 25, attributes := #[] }, { accessFlags := 25, nameIndex := 292, descriptorIndex := 25, attributes := #[] }, { accessFlags := 26, nameIndex := 108, descriptorIndex := 109, attributes := #[] }, { accessFlags := 25, nameIndex := 294, descriptorIndex := 25, attributes := #[] }])
  fields := #[{ name := "U", type := (.object "jdk/internal/misc/Unsafe"), accessFlags := 24, slot := 0, constantValue := 0 }, { name := "BIG_ENDIAN", type := .boolean, accessFlags := 26, slot := 1, constantValue := 0 }, { name := "LOG2_ARRAY_BOOLEAN_INDEX_SCALE", type := .int, accessFlags := 25, slot := 2, constantValue := 0 }, { name := "LOG2_ARRAY_BYTE_INDEX_SCALE", type := .int, accessFlags := 25, slot := 3, constantValue := 0 }, { name := "LOG2_ARRAY_CHAR_INDEX_SCALE", type := .int, accessFlags := 25, slot := 4, constantValue := 0 }, { name := "LOG2_ARRAY_SHORT_INDEX_SCALE", type := .int, accessFlags := 25, slot := 5, constantValue := 0 }, { name := "LOG2_ARRAY_INT_INDEX_SCALE", type := .int, accessFlags := 25, slot := 6, constantValue := 0 }, { name := "LOG2_ARRAY_LONG_INDEX_SCALE", type := .int, accessFlags := 25, slot := 7, constantValue := 0 }, { name := "LOG2_ARRAY_FLOAT_INDEX_SCALE", type := .int, accessFlags := 25, slot := 8, constantValue := 0 }, { name := "LOG2_ARRAY_DOUBLE_INDEX_SCALE", type := .int, accessFlags := 25, slot := 9, constantValue := 0 }, { name := "LOG2_BYTE_BIT_SIZE", type := .int, accessFlags := 26, slot := 10, constantValue := 0 }, { name := "T_BOOLEAN", type := .int, accessFlags := 25, slot := 11, constantValue := 0 }, { name := "T_CHAR", type := .int, accessFlags := 25, slot := 12, constantValue := 0 }, { name := "T_FLOAT", type := .int, accessFlags := 25, slot := 13, constantValue := 0 }, { name := "T_DOUBLE", type := .int, accessFlags := 25, slot := 14, constantValue := 0 }, { name := "T_BYTE", type := .int, accessFlags := 25, slot := 15, constantValue := 0 }, { name := "T_SHORT", type := .int, accessFlags := 25, slot := 16, constantValue := 0 }, { name := "T_INT", type := .int, accessFlags := 25, slot := 17, constantValue := 0 }, { name := "T_LONG", type := .int, accessFlags := 25, slot := 18, constantValue := 0 }, { name := "JLA", type := (.object "jdk/internal/access/JavaLangAccess"), accessFlags := 26, slot := 19, constantValue := 0 }, { name := "SOFT_MAX_ARRAY_LENGTH", type := .int, accessFlags := 25, slot := 20, constantValue := 0 }]
  methods := #[k13m0]
  instanceTypes := #[]
  staticTypes := #[(.object "jdk/internal/misc/Unsafe"), .boolean, .int, .int, .int, .int, .int, .int, .int, .int, .int, .int, .int, .int, .int, .int, .int, .int, .int, (.object "jdk/internal/access/JavaLangAccess"), .int]
  resolved := Array.replicate 378 none
  statics := none }

def pool14 : Array CpInfo := pool [(1, u "java/lang/Cloneable"), (0, .class_ 1), (0, u "java/lang/Object"), (0, .class_ 3)] 3

/-- java/lang/Cloneable -/
def k14 : Class := { plain "java/lang/Cloneable" (some 0) with
  accessFlags := 1537
  interfaces := #[]
  cf := some (fileOf pool14 2 #[] #[] 1537 4 #[] #[])
  fields := #[]
  methods := #[]
  instanceTypes := #[]
  staticTypes := #[]
  resolved := Array.replicate 8 none
  statics := none }

/-- the primitive byte -/
def k15 : Class := { plain "byte" none with kind := .primitive 'B', accessFlags := 0x411 }
/-- [B -/
def k16 : Class := { plain "[B" (some 0) with kind := .array 15 .byte, interfaces := #[14, 2], accessFlags := 1041 }

/-- the primitive char -/
def k17 : Class := { plain "char" none with kind := .primitive 'C', accessFlags := 0x411 }
/-- [C -/
def k18 : Class := { plain "[C" (some 0) with kind := .array 17 .char, interfaces := #[14, 2], accessFlags := 1041 }

/-- the primitive int -/
def k19 : Class := { plain "int" none with kind := .primitive 'I', accessFlags := 0x411 }
/-- [I -/
def k20 : Class := { plain "[I" (some 0) with kind := .array 19 .int, interfaces := #[14, 2], accessFlags := 1041 }

def heap : Heap := #[{ cls := 7, slots := #[.long 0, .int 1, .null, .int 0, .null, .int 0, .int 0], vm := .statics 7 },
  { cls := 10, slots := #[.int 0, .int 8, .int 0, .int 1], vm := .statics 10 },
  { cls := 12, slots := #[.null, .null, .null], vm := .statics 12 }]
def classes : Array Class := #[k0, k1, k2, k3, k4, k5, k6, k7, k8, k9, k10, k11, k12, k13, k14, k15, k16, k17, k18, k19, k20]
def interned : List (Array UInt16 × Addr) := []
def slotsUsed : Nat := 14
def theMethod : MethodId := ⟨1, 1⟩
def args0 : Array Value := #[.int 5, .int 3, .int 7, .int 9]
def aboutOver (below : List Frame) : State where
  vm := { classes := classes, interned := interned.toArray }
  heap := heap
  slotsUsed := slotsUsed
  threads := #[{ frames := .invoking theMethod args0 :: below }]
def below0 : List Frame := [.native { method := ⟨0, 0⟩, args := #[] }]
def about1 : State := aboutOver below0
def p0 : Program := .bare "" "" ""
def e0 : Env := launch0.env 0 0 0
theorem w_frames : about1.frames = Frame.invoking theMethod args0 :: below0 := rfl
set_option maxRecDepth 65536 in
theorem w_args : argsFit about1.vm theMethod args0 = true := by decide +kernel
set_option maxRecDepth 65536 in
theorem w_heap : heapFits about1 = true := by decide +kernel
set_option maxRecDepth 65536 in
theorem w_runnable : about1.curStatus? = some .runnable := by decide +kernel
set_option maxRecDepth 65536 in
theorem w_alone : about1.alone = true := by decide +kernel
set_option maxRecDepth 65536 in
theorem w_named : about1.methodNamed? x = some theMethod := by decide +kernel
set_option maxRecDepth 65536 in
theorem w_hears : about1.hears theMethod below0 = true := by decide +kernel
set_option maxRecDepth 65536 in
theorem w_ripe : about1.ripe theMethod args0 below0 = true := by decide +kernel
theorem w_running : about1.status = .running := rfl
set_option maxRecDepth 65536 in
theorem w_room : about1.hasRoom e0.platform room_1 = true :=
  launch0.hasRoom_least _ room_1 (by decide +kernel) (by decide +kernel) (by decide +kernel) (by decide +kernel) (by decide +kernel) (by decide +kernel)
theorem allAtoms_all (ts : List Jvm.Cond) (a : Array Jvm.Value) (st : Jvm.State) : (allAtoms ts).before a st = ts.all (fun c => c.before a st) := by
  induction ts with
  | nil => rfl
  | cons c t ih =>
    show (Jvm.Cond.and c (allAtoms t)).before a st = _
    rw [Jvm.Cond.before_and, ih, List.all_cons]
def words1 : List Jvm.Cond := Jvm.Cond.code x code maxLocals ret :: tables_1
/-- a 'code' word, met by the world's own term for the bytes: nothing is compared byte by byte -/
theorem code_word {y : MethodName} {bytes : ByteArray} {mx : Nat} {rt : Option FieldType} {a : Array Value} {s : State} {m : MethodId} {meth : Method} {c : Code} (h1 : s.methodNamed? y = some m) (h2 : s.vm.method? m = some meth) (h3 : meth.code = some c) (h4 : c.code = bytes)
    (h5 : (c.maxLocals == mx && c.exceptionTable.isEmpty && decide (c.maxStack ≤ mostOperands) && decide (meth.sig.returnType = rt) && !meth.locks && decide (parseMethodDescriptor y.desc = some meth.sig)) = true) : (Jvm.Cond.code y bytes mx rt).before a s = true := by
  simp only [Bool.and_eq_true, beq_iff_eq, Bool.not_eq_true', decide_eq_true_eq] at h5
  obtain ⟨⟨⟨⟨⟨g1, g2⟩, g3⟩, g4⟩, g5⟩, g6⟩ := h5
  simp [Cond.before, Cond.holds, Cond.value, h1, h2, h3, h4, g1, g2, g3, g4, g5, g6]
def isCode : Jvm.Cond → Bool
  | .code _ _ _ _ => true
  | _ => false
theorem all_split {L : List Jvm.Cond} {P : Jvm.Cond → Bool} (h1 : L.all (fun c => isCode c || P c) = true) (h2 : ∀ c ∈ L.filter isCode, P c = true) : L.all P = true := by
  refine List.all_eq_true.mpr fun c hc => ?_
  have h := List.all_eq_true.mp h1 c hc
  rcases Bool.eq_false_or_eq_true (isCode c) with hi | hi
  · exact h2 c (List.mem_filter.mpr ⟨hc, hi⟩)
  · simpa [hi] using h
set_option maxRecDepth 65536 in
theorem w_c0 : (Jvm.Cond.code x code maxLocals ret).before args0 about1 = true := code_word (m := ⟨1, 1⟩) (meth := k1m1) (c := k1c1) (by decide +kernel) rfl rfl rfl (by decide +kernel)
set_option maxRecDepth 65536 in
theorem w_c1 : (Jvm.Cond.code ({ cls := "java/lang/String", name := "<init>", desc := "([C)V" } : Jvm.MethodName) jdk_42_method_3_code (2 : Nat) (Option.none : Option Jvm.ClassFile.FieldType)).before args0 about1 = true := code_word (m := ⟨7, 1⟩) (meth := k7m1) (c := k7c1) (by decide +kernel) rfl rfl rfl (by decide +kernel)
set_option maxRecDepth 65536 in
theorem w_c2 : (Jvm.Cond.code ({ cls := "java/lang/String", name := "<init>", desc := "([CIILjava/lang/Void;)V" } : Jvm.MethodName) jdk_42_method_149_code (6 : Nat) (Option.none : Option Jvm.ClassFile.FieldType)).before args0 about1 = true := code_word (m := ⟨7, 4⟩) (meth := k7m4) (c := k7c4) (by decide +kernel) rfl rfl rfl (by decide +kernel)
set_option maxRecDepth 65536 in
theorem w_c3 : (Jvm.Cond.code ({ cls := "java/lang/Object", name := "<init>", desc := "()V" } : Jvm.MethodName) object_method_1_code (1 : Nat) (Option.none : Option Jvm.ClassFile.FieldType)).before args0 about1 = true := code_word (m := ⟨0, 0⟩) (meth := k0m0) (c := k0c0) (by decide +kernel) rfl rfl rfl (by decide +kernel)
set_option maxRecDepth 65536 in
theorem w_c4 : (Jvm.Cond.code ({ cls := "com/example/grantline/grantline/permission/PathSyntax", name := "startsWithDrive", desc := "(Ljava/lang/String;)Z" } : Jvm.MethodName) prog_30_method_9_code (2 : Nat) (Option.some Jvm.ClassFile.FieldType.boolean)).before args0 about1 = true := code_word (m := ⟨9, 0⟩) (meth := k9m0) (c := k9c0) (by decide +kernel) rfl rfl rfl (by decide +kernel)
set_option maxRecDepth 65536 in
theorem w_c5 : (Jvm.Cond.code ({ cls := "java/lang/String", name := "length", desc := "()I" } : Jvm.MethodName) jdk_42_method_54_code (1 : Nat) (Option.some Jvm.ClassFile.FieldType.int)).before args0 about1 = true := code_word (m := ⟨7, 2⟩) (meth := k7m2) (c := k7c2) (by decide +kernel) rfl rfl rfl (by decide +kernel)
set_option maxRecDepth 65536 in
theorem w_c6 : (Jvm.Cond.code ({ cls := "java/lang/String", name := "coder", desc := "()B" } : Jvm.MethodName) jdk_42_method_152_code (1 : Nat) (Option.some Jvm.ClassFile.FieldType.byte)).before args0 about1 = true := code_word (m := ⟨7, 5⟩) (meth := k7m5) (c := k7c5) (by decide +kernel) rfl rfl rfl (by decide +kernel)
set_option maxRecDepth 65536 in
theorem w_c7 : (Jvm.Cond.code ({ cls := "java/lang/StringUTF16", name := "compress", desc := "([CII)[B" } : Jvm.MethodName) jdk_52_method_16_code (6 : Nat) (Option.some (Jvm.ClassFile.FieldType.array Jvm.ClassFile.FieldType.byte))).before args0 about1 = true := code_word (m := ⟨10, 8⟩) (meth := k10m8) (c := k10c8) (by decide +kernel) rfl rfl rfl (by decide +kernel)
set_option maxRecDepth 65536 in
theorem w_c8 : (Jvm.Cond.code ({ cls := "java/lang/StringUTF16", name := "compress", desc := "([CI[BII)I" } : Jvm.MethodName) jdk_52_method_21_code (7 : Nat) (Option.some Jvm.ClassFile.FieldType.int)).before args0 about1 = true := code_word (m := ⟨10, 9⟩) (meth := k10m9) (c := k10c9) (by decide +kernel) rfl rfl rfl (by decide +kernel)
set_option maxRecDepth 65536 in
theorem w_c9 : (Jvm.Cond.code ({ cls := "java/lang/StringUTF16", name := "coderFromArrayLen", desc := "([BI)B" } : Jvm.MethodName) jdk_52_method_15_code (2 : Nat) (Option.some Jvm.ClassFile.FieldType.byte)).before args0 about1 = true := code_word (m := ⟨10, 7⟩) (meth := k10m7) (c := k10c7) (by decide +kernel) rfl rfl rfl (by decide +kernel)
set_option maxRecDepth 65536 in
theorem w_c10 : (Jvm.Cond.code ({ cls := "java/lang/String", name := "charAt", desc := "(I)C" } : Jvm.MethodName) jdk_42_method_56_code (2 : Nat) (Option.some Jvm.ClassFile.FieldType.char)).before args0 about1 = true := code_word (m := ⟨7, 3⟩) (meth := k7m3) (c := k7c3) (by decide +kernel) rfl rfl rfl (by decide +kernel)
set_option maxRecDepth 65536 in
theorem w_c11 : (Jvm.Cond.code ({ cls := "java/lang/String", name := "isLatin1", desc := "()Z" } : Jvm.MethodName) jdk_42_method_154_code (1 : Nat) (Option.some Jvm.ClassFile.FieldType.boolean)).before args0 about1 = true := code_word (m := ⟨7, 6⟩) (meth := k7m6) (c := k7c6) (by decide +kernel) rfl rfl rfl (by decide +kernel)
set_option maxRecDepth 65536 in
theorem w_c12 : (Jvm.Cond.code ({ cls := "java/lang/StringLatin1", name := "charAt", desc := "([BI)C" } : Jvm.MethodName) jdk_43_method_2_code (2 : Nat) (Option.some Jvm.ClassFile.FieldType.char)).before args0 about1 = true := code_word (m := ⟨11, 1⟩) (meth := k11m1) (c := k11c1) (by decide +kernel) rfl rfl rfl (by decide +kernel)
set_option maxRecDepth 65536 in
theorem w_c13 : (Jvm.Cond.code ({ cls := "java/lang/String", name := "checkIndex", desc := "(II)V" } : Jvm.MethodName) jdk_42_method_155_code (2 : Nat) (Option.none : Option Jvm.ClassFile.FieldType)).before args0 about1 = true := code_word (m := ⟨7, 7⟩) (meth := k7m7) (c := k7c7) (by decide +kernel) rfl rfl rfl (by decide +kernel)
set_option maxRecDepth 65536 in
theorem w_c14 : (Jvm.Cond.code ({ cls := "jdk/internal/util/Preconditions", name := "checkIndex", desc := "(IILjava/util/function/BiFunction;)I" } : Jvm.MethodName) jdk_41_method_11_code (3 : Nat) (Option.some Jvm.ClassFile.FieldType.int)).before args0 about1 = true := code_word (m := ⟨12, 1⟩) (meth := k12m1) (c := k12c1) (by decide +kernel) rfl rfl rfl (by decide +kernel)
set_option maxRecDepth 65536 in
theorem w_c15 : (Jvm.Cond.code ({ cls := "java/lang/StringUTF16", name := "toBytes", desc := "([CII)[B" } : Jvm.MethodName) jdk_52_method_14_code (5 : Nat) (Option.some (Jvm.ClassFile.FieldType.array Jvm.ClassFile.FieldType.byte))).before args0 about1 = true := code_word (m := ⟨10, 6⟩) (meth := k10m6) (c := k10c6) (by decide +kernel) rfl rfl rfl (by decide +kernel)
set_option maxRecDepth 65536 in
theorem w_c16 : (Jvm.Cond.code ({ cls := "java/lang/StringUTF16", name := "newBytesFor", desc := "(I)[B" } : Jvm.MethodName) jdk_52_method_2_code (1 : Nat) (Option.some (Jvm.ClassFile.FieldType.array Jvm.ClassFile.FieldType.byte))).before args0 about1 = true := code_word (m := ⟨10, 1⟩) (meth := k10m1) (c := k10c1) (by decide +kernel) rfl rfl rfl (by decide +kernel)
set_option maxRecDepth 65536 in
theorem w_c17 : (Jvm.Cond.code ({ cls := "java/lang/StringUTF16", name := "newBytesLength", desc := "(I)I" } : Jvm.MethodName) jdk_52_method_3_code (1 : Nat) (Option.some Jvm.ClassFile.FieldType.int)).before args0 about1 = true := code_word (m := ⟨10, 2⟩) (meth := k10m2) (c := k10c2) (by decide +kernel) rfl rfl rfl (by decide +kernel)
set_option maxRecDepth 65536 in
theorem w_c18 : (Jvm.Cond.code ({ cls := "java/lang/StringUTF16", name := "putChar", desc := "([BII)V" } : Jvm.MethodName) jdk_52_method_4_code (3 : Nat) (Option.none : Option Jvm.ClassFile.FieldType)).before args0 about1 = true := code_word (m := ⟨10, 3⟩) (meth := k10m3) (c := k10c3) (by decide +kernel) rfl rfl rfl (by decide +kernel)
set_option maxRecDepth 65536 in
theorem w_c19 : (Jvm.Cond.code ({ cls := "java/lang/StringUTF16", name := "getChar", desc := "([BI)C" } : Jvm.MethodName) jdk_52_method_5_code (2 : Nat) (Option.some Jvm.ClassFile.FieldType.char)).before args0 about1 = true := code_word (m := ⟨10, 4⟩) (meth := k10m4) (c := k10c4) (by decide +kernel) rfl rfl rfl (by decide +kernel)
set_option maxRecDepth 65536 in
theorem w_c20 : (Jvm.Cond.code ({ cls := "java/lang/StringUTF16", name := "charAt", desc := "([BI)C" } : Jvm.MethodName) jdk_52_method_83_code (2 : Nat) (Option.some Jvm.ClassFile.FieldType.char)).before args0 about1 = true := code_word (m := ⟨10, 10⟩) (meth := k10m10) (c := k10c10) (by decide +kernel) rfl rfl rfl (by decide +kernel)
set_option maxRecDepth 65536 in
theorem w_c21 : (Jvm.Cond.code ({ cls := "java/lang/StringUTF16", name := "checkIndex", desc := "(I[B)V" } : Jvm.MethodName) jdk_52_method_91_code (2 : Nat) (Option.none : Option Jvm.ClassFile.FieldType)).before args0 about1 = true := code_word (m := ⟨10, 11⟩) (meth := k10m11) (c := k10c11) (by decide +kernel) rfl rfl rfl (by decide +kernel)
set_option maxRecDepth 65536 in
theorem w_c22 : (Jvm.Cond.code ({ cls := "java/lang/StringUTF16", name := "length", desc := "([B)I" } : Jvm.MethodName) jdk_52_method_6_code (1 : Nat) (Option.some Jvm.ClassFile.FieldType.int)).before args0 about1 = true := code_word (m := ⟨10, 5⟩) (meth := k10m5) (c := k10c5) (by decide +kernel) rfl rfl rfl (by decide +kernel)
def codes1 : List Jvm.Cond := [Jvm.Cond.code x code maxLocals ret, Jvm.Cond.code ({ cls := "java/lang/String", name := "<init>", desc := "([C)V" } : Jvm.MethodName) jdk_42_method_3_code (2 : Nat) (Option.none : Option Jvm.ClassFile.FieldType), Jvm.Cond.code ({ cls := "java/lang/String", name := "<init>", desc := "([CIILjava/lang/Void;)V" } : Jvm.MethodName) jdk_42_method_149_code (6 : Nat) (Option.none : Option Jvm.ClassFile.FieldType), Jvm.Cond.code ({ cls := "java/lang/Object", name := "<init>", desc := "()V" } : Jvm.MethodName) object_method_1_code (1 : Nat) (Option.none : Option Jvm.ClassFile.FieldType), Jvm.Cond.code ({ cls := "com/example/grantline/grantline/permission/PathSyntax", name := "startsWithDrive", desc := "(Ljava/lang/String;)Z" } : Jvm.MethodName) prog_30_method_9_code (2 : Nat) (Option.some Jvm.ClassFile.FieldType.boolean), Jvm.Cond.code ({ cls := "java/lang/String", name := "length", desc := "()I" } : Jvm.MethodName) jdk_42_method_54_code (1 : Nat) (Option.some Jvm.ClassFile.FieldType.int), Jvm.Cond.code ({ cls := "java/lang/String", name := "coder", desc := "()B" } : Jvm.MethodName) jdk_42_method_152_code (1 : Nat) (Option.some Jvm.ClassFile.FieldType.byte), Jvm.Cond.code ({ cls := "java/lang/StringUTF16", name := "compress", desc := "([CII)[B" } : Jvm.MethodName) jdk_52_method_16_code (6 : Nat) (Option.some (Jvm.ClassFile.FieldType.array Jvm.ClassFile.FieldType.byte)), Jvm.Cond.code ({ cls := "java/lang/StringUTF16", name := "compress", desc := "([CI[BII)I" } : Jvm.MethodName) jdk_52_method_21_code (7 : Nat) (Option.some Jvm.ClassFile.FieldType.int), Jvm.Cond.code ({ cls := "java/lang/StringUTF16", name := "coderFromArrayLen", desc := "([BI)B" } : Jvm.MethodName) jdk_52_method_15_code (2 : Nat) (Option.some Jvm.ClassFile.FieldType.byte), Jvm.Cond.code ({ cls := "java/lang/String", name := "charAt", desc := "(I)C" } : Jvm.MethodName) jdk_42_method_56_code (2 : Nat) (Option.some Jvm.ClassFile.FieldType.char), Jvm.Cond.code ({ cls := "java/lang/String", name := "isLatin1", desc := "()Z" } : Jvm.MethodName) jdk_42_method_154_code (1 : Nat) (Option.some Jvm.ClassFile.FieldType.boolean), Jvm.Cond.code ({ cls := "java/lang/StringLatin1", name := "charAt", desc := "([BI)C" } : Jvm.MethodName) jdk_43_method_2_code (2 : Nat) (Option.some Jvm.ClassFile.FieldType.char), Jvm.Cond.code ({ cls := "java/lang/String", name := "checkIndex", desc := "(II)V" } : Jvm.MethodName) jdk_42_method_155_code (2 : Nat) (Option.none : Option Jvm.ClassFile.FieldType), Jvm.Cond.code ({ cls := "jdk/internal/util/Preconditions", name := "checkIndex", desc := "(IILjava/util/function/BiFunction;)I" } : Jvm.MethodName) jdk_41_method_11_code (3 : Nat) (Option.some Jvm.ClassFile.FieldType.int), Jvm.Cond.code ({ cls := "java/lang/StringUTF16", name := "toBytes", desc := "([CII)[B" } : Jvm.MethodName) jdk_52_method_14_code (5 : Nat) (Option.some (Jvm.ClassFile.FieldType.array Jvm.ClassFile.FieldType.byte)), Jvm.Cond.code ({ cls := "java/lang/StringUTF16", name := "newBytesFor", desc := "(I)[B" } : Jvm.MethodName) jdk_52_method_2_code (1 : Nat) (Option.some (Jvm.ClassFile.FieldType.array Jvm.ClassFile.FieldType.byte)), Jvm.Cond.code ({ cls := "java/lang/StringUTF16", name := "newBytesLength", desc := "(I)I" } : Jvm.MethodName) jdk_52_method_3_code (1 : Nat) (Option.some Jvm.ClassFile.FieldType.int), Jvm.Cond.code ({ cls := "java/lang/StringUTF16", name := "putChar", desc := "([BII)V" } : Jvm.MethodName) jdk_52_method_4_code (3 : Nat) (Option.none : Option Jvm.ClassFile.FieldType), Jvm.Cond.code ({ cls := "java/lang/StringUTF16", name := "getChar", desc := "([BI)C" } : Jvm.MethodName) jdk_52_method_5_code (2 : Nat) (Option.some Jvm.ClassFile.FieldType.char), Jvm.Cond.code ({ cls := "java/lang/StringUTF16", name := "charAt", desc := "([BI)C" } : Jvm.MethodName) jdk_52_method_83_code (2 : Nat) (Option.some Jvm.ClassFile.FieldType.char), Jvm.Cond.code ({ cls := "java/lang/StringUTF16", name := "checkIndex", desc := "(I[B)V" } : Jvm.MethodName) jdk_52_method_91_code (2 : Nat) (Option.none : Option Jvm.ClassFile.FieldType), Jvm.Cond.code ({ cls := "java/lang/StringUTF16", name := "length", desc := "([B)I" } : Jvm.MethodName) jdk_52_method_6_code (1 : Nat) (Option.some Jvm.ClassFile.FieldType.int)]
set_option maxRecDepth 65536 in
theorem codes_eq : words1.filter isCode = codes1 := rfl
theorem w_codes : ∀ c ∈ words1.filter isCode, c.before args0 about1 = true := by
  rw [codes_eq]
  intro c hc
  simp only [codes1, List.mem_cons, List.not_mem_nil, or_false] at hc
  rcases hc with rfl | rfl | rfl | rfl | rfl | rfl | rfl | rfl | rfl | rfl | rfl | rfl | rfl | rfl | rfl | rfl | rfl | rfl | rfl | rfl | rfl | rfl | rfl
  · exact w_c0
  · exact w_c1
  · exact w_c2
  · exact w_c3
  · exact w_c4
  · exact w_c5
  · exact w_c6
  · exact w_c7
  · exact w_c8
  · exact w_c9
  · exact w_c10
  · exact w_c11
  · exact w_c12
  · exact w_c13
  · exact w_c14
  · exact w_c15
  · exact w_c16
  · exact w_c17
  · exact w_c18
  · exact w_c19
  · exact w_c20
  · exact w_c21
  · exact w_c22
set_option maxRecDepth 65536 in
theorem w_t1 : (words1.take 24).all (fun c => isCode c || c.before args0 about1) = true := by decide +kernel
set_option maxRecDepth 65536 in
theorem w_t2 : ((words1.drop 24).take 24).all (fun c => isCode c || c.before args0 about1) = true := by decide +kernel
set_option maxRecDepth 65536 in
theorem w_t3 : (((words1.drop 24).drop 24).take 24).all (fun c => isCode c || c.before args0 about1) = true := by decide +kernel
set_option maxRecDepth 65536 in
theorem w_t4 : ((((words1.drop 24).drop 24).drop 24).take 24).all (fun c => isCode c || c.before args0 about1) = true := by decide +kernel
set_option maxRecDepth 65536 in
theorem w_t5 : ((((words1.drop 24).drop 24).drop 24).drop 24).all (fun c => isCode c || c.before args0 about1) = true := by decide +kernel
theorem w_tables : (allAtoms (Jvm.Cond.code x code maxLocals ret :: tables_1)).before args0 about1 = true := by
  rw [allAtoms_all]
  show words1.all (fun c => c.before args0 about1) = true
  refine all_split ?_ w_codes
  rw [← List.take_append_drop 24 words1, List.all_append, w_t1, ← List.take_append_drop 24 (words1.drop 24), List.all_append, w_t2, ← List.take_append_drop 24 ((words1.drop 24).drop 24), List.all_append, w_t3, ← List.take_append_drop 24 (((words1.drop 24).drop 24).drop 24), List.all_append, w_t4, w_t5]
  rfl
set_option maxRecDepth 65536 in
theorem w_rest : rest_1_c.before args0 about1 = true := by decide +kernel
set_option maxRecDepth 65536 in
theorem w_case : (Jvm.Cond.and given_1 narrow_1).before args0 about1 = true := by decide +kernel
set_option maxRecDepth 65536 in
theorem w_consts : constsHeld consts_1 about1 := Jvm.Lit.constsHeldB_iff.mp (by decide +kernel)
theorem w_applies : (headSpec (Jvm.Cond.code x code maxLocals ret :: tables_1) room_1).applies x e0.platform about1 = true :=
  (Spec.applies_iff w_frames).mpr ⟨w_running, w_runnable, w_alone, w_named, w_hears, w_ripe, w_room, w_tables⟩
theorem atStart : AtStart classFile x code maxLocals ret World_1 tables_1 room_1 Calls_1 rest_1 Pre_1 launch0 p0 e0 about1 theMethod args0 below0 :=
  ⟨lists_1, trivial, launch0.admits_env _ _ _, launch0.least_env, fairChoices_fair.cas, fairChoices_fair.clock, w_frames, w_args, w_heap, w_applies, ⟨w_consts, trivial⟩, w_rest, w_case⟩
end start1
theorem witness_1 : WitnessClaimed_1 := ⟨start1.p0, start1.e0, start1.about1, start1.theMethod, start1.args0, start1.below0, start1.atStart⟩
end Jvm.Pilot.@@N@@
