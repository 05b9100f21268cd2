section
/-! THE PLAIN LAW: what both sides compute, and that it is the same. Tables are numbers in base 256 (the kernel counts them fast). -/
/-- the j-th byte of a number -/
def zby (n j : Nat) : Nat := (n >>> (8 * j)) % 256
theorem zby_lt (n j : Nat) : zby n j < 256 := Nat.mod_lt _ (by decide)
/-- letters of a symbol of this kind -/
def zroomN : Nat := 293600981219062657320195
def zroom (j : Nat) : Nat := zby zroomN j
/-- check letters of a symbol of this kind -/
def zchN : Nat := 170523437248979080447749
def zch (j : Nat) : Nat := zby zchN j
/-- FACTOR_SETS -/
def zfsN : Nat := 90710565749535068261091947938709112581
def zfs (j : Nat) : Nat := zby zfsN j
/-- the place of the k-th kind in FACTOR_SETS -/
def zidxN : Nat := 47390263963055590342912
def zidx (j : Nat) : Nat := zby zidxN j
/-- LOG -/
def zlogN : Nat := 19023263400047969703917998474215529306543314219530594168281454861348656516361464280926479253613650484224334145095789280367891680668533513894020917487309156463073956935097940827711221921935921761036247808492023318209277353145016539976729123472067079843876421474407858884755725643681844425347235475588569134072337270214477271890913134105734187246662713635644807447246617271933992108277178435463717955592422828726501571502540655982721090921171436622952824284031104054110005206578887255652106460219091498173018059354806137366014552943107737612905046494579084899766167052039344571374159437576258616684278637091109610782720
def zlog (j : Nat) : Nat := zby zlogN j
/-- ALOG -/
def zalogN : Nat := 74113578068721496020453224891373269560840312743537427539376386303796706541951737608362005261165626598478448116391108206410251867222750680289859891055953151503340524144012101632969293581314672591341315248802032630758100080432109905934330662946948403975444937965098446446572115220866432411100887340013153562161675801944450827992823828505944794352529463420436338145009884542863490002864910301968470435185961098541820052584360224623655439627124949927180071362302658484174051972184794259812187871494688604273004236535314167203352909357813487493038016134480053245859759431707216455029793333007078475838830124430071693825
def zalog (j : Nat) : Nat := zby zalogN j
/-- FACTORS, a row a number -/
def zfacN (r : Nat) : Nat := match r with
  | 0 => 268151238884
  | 1 => 71596832204014615
  | 2 => 290111904914372837316636
  | 3 => 145530292372511893899545263
  | 4 => 75017107344683378915332233513
  | 5 => 3758879300351795253163489266524572
  | 6 => 16407800144563621220528473190517262344569683
  | 7 => 986109518023562213335911135323740166238246322959
  | 8 => 4737171466573216837494527850128893503353973678906229177908
  | 9 => 26893163788309994538131807084405338402517685517639557218238504626131
  | 10 => 218196519565030657052083402925171241228969070392368629167772032190987651420231358906357
  | 11 => 2753336396330345488716826909736051417272951874556999937435108234335336229776502367988044848507240781
  | 12 => 3060238733080163027868104716957794189385865987570041667807426495751994801873549518741657465475509453594729737127157
  | 13 => 132192135955918464680676162182996660517881541599438932943417293953690949946253715133049618035598691172554400560738231766666041523898799
  | 14 => 163065112779047643121122919338876656502598457556530258879030751436771792912511038932993076599460325678774267883513497387714814771271212720207254085106
  | _ => 41912306033048221056328195404364122750078953112212942496764699371862390059979760448496134827279364648606999999384967264037591723740662542312696476124103053992125660
def zfac (r j : Nat) : Nat := zby (zfacN r) j
/-- the maker polynomial behind n rounds, the highest power first -/
def zmkN (n : Nat) : Nat := match n with
  | 0 => 1
  | 1 => 513
  | 2 => 525825
  | 3 => 1077415425
  | 4 => 776178507265
  | 5 => 250895068511745
  | 6 => 61666691467804161
  | 7 => 1676623870521310721
  | 8 => 1361684346512807744257
  | 9 => 246367636691486274521345
  | 10 => 33966684417054836131773697
  | 11 => 54327676802358627988408465409
  | 12 => 3295897310730670700905661526529
  | 13 => 1296328173231606134929417769765633
  | 14 => 811980993575305894727957556378188033
  | 15 => 154648050742199876936215869027593968897
  | 16 => 30284331733929814438762402552233996761089
  | 17 => 5151012526564116278129435900138933542936321
  | 18 => 1867982828288997136656113674341135543430724609
  | 19 => 593540135127510434073976241182488488810225030913
  | 20 => 23041220005494246379830531963395262051477018553345
  | 21 => 41070971151902304482598552927125718146999283088914177
  | 22 => 7276847031950023903433658534250698825101846988587854849
  | 23 => 5380629255337691687549721028079985688959828370415172843265
  | 24 => 331076582268950647286026969579340565805723215952331620401409
  | 25 => 384517974553638504010255193687411321114852717418606052719176961
  | 26 => 14508750680487535137568328105556261608581665044599651755835815169
  | 27 => 22717634051261503801102054153527481383073185710684372719481132476417
  | 28 => 5712893731639241269848308152147990509958503716013618912706816789839617
  | 29 => 357045941944143750372143542981279235970060105572925086529474681495539969
  | 30 => 26641944757097013132666803683993054516822977562094990382080332973497683201
  | 31 => 2727557734432673732481456655871304199261221345286837047744198607029502096641
  | 32 => 26368311653088291380033329446169451116071365281275583713978218064036154606446593
  | 33 => 6523852450016807713414710690902946384760542803932318099546887676565192086394229249
  | 34 => 1447691042042241359241915762075305848630749593477449329485743485619733396800548408065
  | 35 => 225883174107431687887435044943275294015689928899807490048566426710151679304715332892929
  | _ => 122092754776188830504930101959806345713319338474278013206114763378339888850285444138627073
def zmk (n j : Nat) : Nat := zby (zmkN n) j
/-- the root behind n rounds -/
def zrtN : Nat := 36651072226120841358393562054915595895872802012823245075220676139160164731890351454028289
def zrt (j : Nat) : Nat := zby zrtN j
theorem zby_log (j : Nat) : zlog j < 256 := zby_lt _ _
/-- doubling modulo the polynomial -/
def zpa (s : Nat) : Nat := if 255 < 2 * s then (2 * s) ^^^ 301 else 2 * s
def zpb (a b k s : Nat) : Nat := if b / 2 ^ k % 2 = 1 then s ^^^ a else s
/-- the product, j of its eight steps done -/
def zpr (a b : Nat) : Nat → Nat
  | 0 => 0
  | j + 1 => zpb a b (7 - j) (zpa (zpr a b j))
def zp (a b : Nat) : Nat := zpr a b 8
def zall (p : Nat → Bool) : Nat → Bool
  | 0 => true
  | n + 1 => p n && zall p n
theorem zall_at {p : Nat → Bool} : ∀ {n : Nat}, zall p n = true → ∀ i, i < n → p i = true
  | 0, _, _, h => absurd h (Nat.not_lt_zero _)
  | n + 1, e, i, h => by
    have e' : (p n && zall p n) = true := e
    rw [Bool.and_eq_true] at e'
    rcases Nat.lt_succ_iff_lt_or_eq.mp h with q | q
    · exact zall_at e'.2 i q
    · rw [q]; exact e'.1
theorem zeq_of {a b : Nat} (h : Nat.beq a b = true) : a = b := Nat.eq_of_beq_eq_true h
theorem zle_of {a b : Nat} (h : Nat.ble a b = true) : a ≤ b := Nat.le_of_ble_eq_true h
theorem zpa_lt {s : Nat} (h : s < 256) : zpa s < 256 := by
  have q := zall_at (p := fun s => Nat.ble (zpa s + 1) 256) (n := 256) (by decide +kernel) s h
  exact zle_of q
theorem zxor_lt {a b : Nat} (ha : a < 256) (hb : b < 256) : a ^^^ b < 256 := Nat.xor_lt_two_pow (n := 8) ha hb
theorem zpb_lt {a b k s : Nat} (ha : a < 256) (hs : s < 256) : zpb a b k s < 256 := by
  unfold zpb
  split
  · exact zxor_lt hs ha
  · exact hs
theorem zpr_lt {a : Nat} (ha : a < 256) (b : Nat) : ∀ j, zpr a b j < 256
  | 0 => by show 0 < 256; decide
  | j + 1 => zpb_lt ha (zpa_lt (zpr_lt ha b j))
theorem zp_lt {a : Nat} (ha : a < 256) (b : Nat) : zp a b < 256 := zpr_lt ha b 8
/-- what the tables say of m times c -/
def ztb (m c : Nat) : Nat := bif Nat.beq m 0 then 0 else zalog ((zlog m + zlog c) % 255)
theorem zroom_in : ∀ k, k < 10 → 3 ≤ zroom k ∧ zroom k ≤ 62 := by decide +kernel
theorem zch_in : ∀ k, k < 10 → 5 ≤ zch k ∧ zch k ≤ 36 := by decide +kernel
theorem zidx_in : ∀ k, k < 10 → zidx k < 16 := by decide +kernel
theorem zidx_at : ∀ k, k < 10 → zfs (zidx k) = zch k := by decide +kernel
theorem zidx_lo : ∀ k, k < 10 → ∀ i, i < zidx k → zfs i ≠ zch k := by decide +kernel
set_option maxRecDepth 100000 in
theorem ztab_all : zall (fun k => zall (fun j => Nat.ble 1 (zfac (zidx k) j) && zall (fun m => Nat.beq (zp m (zfac (zidx k) j)) (ztb m (zfac (zidx k) j))) 256) (zch k)) 10 = true := by decide +kernel
theorem zfac_pos {k j : Nat} (hk : k < 10) (hj : j < zch k) : 1 ≤ zfac (zidx k) j := by
  have h := zall_at (zall_at ztab_all k hk) j hj
  rw [Bool.and_eq_true] at h
  exact zle_of h.1
theorem ztab {k j m : Nat} (hk : k < 10) (hj : j < zch k) (hm : m < 256) : zp m (zfac (zidx k) j) = ztb m (zfac (zidx k) j) := by
  have h := zall_at (zall_at ztab_all k hk) j hj
  rw [Bool.and_eq_true] at h
  exact zeq_of (zall_at h.2 m hm)
theorem zp_0 (c : Nat) : zp 0 c = 0 := by
  have h : ∀ j, zpr 0 c j = 0 := by
    intro j
    induction j with
    | zero => rfl
    | succ j ih =>
      show zpb 0 c (7 - j) (zpa (zpr 0 c j)) = 0
      rw [ih]
      unfold zpb zpa
      simp
  exact h 8
set_option maxRecDepth 100000 in
theorem zmk_all : zall (fun n => Nat.beq (zrt (n + 1)) (zp (zrt n) 2) && zall (fun j => Nat.beq (zmk (n + 1) j) ((bif Nat.ble j n then zmk n j else 0) ^^^ (bif Nat.beq j 0 then 0 else zp (zrt (n + 1)) (zmk n (j - 1))))) (n + 2)) 36 = true := by decide +kernel
theorem zrt_s {n : Nat} (h : n < 36) : zrt (n + 1) = zp (zrt n) 2 := by
  have e := zall_at zmk_all n h
  rw [Bool.and_eq_true] at e
  exact zeq_of e.1
theorem zmk_s {n j : Nat} (h : n < 36) (hj : j < n + 2) : zmk (n + 1) j = (bif Nat.ble j n then zmk n j else 0) ^^^ (bif Nat.beq j 0 then 0 else zp (zrt (n + 1)) (zmk n (j - 1))) := by
  have e := zall_at zmk_all n h
  rw [Bool.and_eq_true] at e
  exact zeq_of (zall_at e.2 j hj)
theorem zmk_all2 : zall (fun k => zall (fun j => Nat.beq (zmk (zch k) (j + 1)) (zfac (zidx k) (zch k - 1 - j))) (zch k)) 10 = true := by decide +kernel
theorem zmk_fac {k j : Nat} (hk : k < 10) (hj : j < zch k) : zmk (zch k) (j + 1) = zfac (zidx k) (zch k - 1 - j) := zeq_of (zall_at (zall_at zmk_all2 k hk) j hj)
/-- the class: the check letters behind i letters -/
def ze (C : Nat) (f d : Nat → Nat) : Nat → Nat → Nat
  | 0 => fun _ => 0
  | i + 1 => fun k => (if k = 0 then 0 else ze C f d i (k - 1)) ^^^ zp (ze C f d i (C - 1) ^^^ d i) (f k)
/-- the reference: what is left behind i letters -/
def zl (R C : Nat) (g d : Nat → Nat) : Nat → Nat → Nat
  | 0 => fun q => if q < R then d q else 0
  | i + 1 => fun q => if i ≤ q ∧ q ≤ i + C then zl R C g d i q ^^^ zp (zl R C g d i i) (g (q - i)) else zl R C g d i q
theorem zxor_swap (a b c : Nat) : (a ^^^ b) ^^^ c = a ^^^ (b ^^^ c) := Nat.xor_assoc a b c
theorem zl_ze {R C : Nat} {f g d : Nat → Nat} (hC : 1 ≤ C) (hg : ∀ j, j < C → g (j + 1) = f (C - 1 - j)) :
    ∀ i, i ≤ R → ∀ j, zl R C g d i (i + j) = (if i + j < R then d (i + j) else 0) ^^^ (if j < C then ze C f d i (C - 1 - j) else 0) := by
  intro i
  induction i with
  | zero =>
    intro _ j
    have e : (if j < C then ze C f d 0 (C - 1 - j) else 0) = 0 := by
      split <;> rfl
    rw [e, Nat.xor_zero]
    rfl
  | succ i ih =>
    intro hi j
    have h0 : zl R C g d i i = ze C f d i (C - 1) ^^^ d i := by
      have h := ih (by omega) 0
      rw [Nat.add_zero, if_pos (by omega), if_pos (by omega), Nat.sub_zero] at h
      rw [h, Nat.xor_comm]
    have h1 := ih (by omega) (j + 1)
    rw [show i + (j + 1) = i + 1 + j by omega] at h1
    show (if i ≤ i + 1 + j ∧ i + 1 + j ≤ i + C then zl R C g d i (i + 1 + j) ^^^ zp (zl R C g d i i) (g (i + 1 + j - i)) else zl R C g d i (i + 1 + j)) = _
    by_cases hj : j < C
    · rw [if_pos (by omega), h1, h0, show i + 1 + j - i = j + 1 by omega, hg j hj, if_pos hj, zxor_swap]
      congr 1
      show _ = (if C - 1 - j = 0 then 0 else ze C f d i (C - 1 - j - 1)) ^^^ zp (ze C f d i (C - 1) ^^^ d i) (f (C - 1 - j))
      congr 1
      by_cases hl : j + 1 < C
      · rw [if_pos hl, if_neg (by omega), show C - 1 - (j + 1) = C - 1 - j - 1 by omega]
      · rw [if_neg hl, if_pos (by omega)]
    · rw [if_neg (by omega), h1, if_neg hj, if_neg (show ¬ j + 1 < C by omega)]
theorem ze_lt {C : Nat} {f d : Nat → Nat} (hd : ∀ i, d i < 256) : ∀ i k, ze C f d i k < 256 := by
  intro i
  induction i with
  | zero => intro k; exact Nat.zero_lt_succ 255
  | succ i ih =>
    intro k
    refine zxor_lt ?_ (zp_lt (zxor_lt (ih _) (hd i)) _)
    split
    · decide
    · exact ih _
theorem zl_lt {R C : Nat} {g d : Nat → Nat} (hd : ∀ i, d i < 256) : ∀ i q, zl R C g d i q < 256 := by
  intro i
  induction i with
  | zero =>
    intro q
    show (if q < R then d q else 0) < 256
    split
    · exact hd q
    · decide
  | succ i ih =>
    intro q
    show (if i ≤ q ∧ q ≤ i + C then zl R C g d i q ^^^ zp (zl R C g d i i) (g (q - i)) else zl R C g d i q) < 256
    split
    · exact zxor_lt (ih q) (zp_lt (ih i) _)
    · exact ih q
/-- the whole symbol of kind k, letters d: the j-th letter, as the class has it -/
def zw (k : Nat) (d : Nat → Nat) (j : Nat) : Nat := if j < zroom k then d j else ze (zch k) (zfac (zidx k)) d (zroom k) (zch k - 1 - (j - zroom k))
theorem zw_lt {k : Nat} {d : Nat → Nat} (hd : ∀ i, d i < 256) (j : Nat) : zw k d j < 256 := by
  unfold zw
  split
  · exact hd j
  · exact ze_lt hd _ _
/-- the two sides agree -/
theorem zw_eq {k : Nat} (hk : k < 10) (d : Nat → Nat) {j : Nat} (h1 : zroom k ≤ j) (h2 : j < zroom k + zch k) : zl (zroom k) (zch k) (zmk (zch k)) d (zroom k) j = zw k d j := by
  have hc := zch_in k hk
  have h := zl_ze (R := zroom k) (C := zch k) (f := zfac (zidx k)) (g := zmk (zch k)) (d := d) (by omega) (fun j hj => zmk_fac hk hj) (zroom k) (Nat.le_refl _) (j - zroom k)
  rw [show zroom k + (j - zroom k) = j by omega, if_neg (by omega), if_pos (by omega), Nat.zero_xor] at h
  rw [h, zw, if_neg (by omega)]
end
section
-- ===== PART A: goes FIRST, ahead of the names: the tables' words, and 'selects' of the private methods out of them =====
/-- a private method of a class that the tables say can be made, by its rows of tables_1 -/
def lw_okq (q : MethodName × Nat) : Prop := (q.1.cls ≠ "java/lang/invoke/MethodHandle" ∧ q.1.cls ≠ "java/lang/invoke/VarHandle") ∧ Cond.instantiable q.1.cls q.2 ∈ tables_1 ∧ Cond.privateMethod q.1 ∈ tables_1 ∧ Cond.instanceMethod q.1 ∈ tables_1
set_option maxRecDepth 100000
theorem lw_t1 {w : Cond} (h : w ∈ tables_1_1) : w ∈ tables_1 := List.mem_append_left _ h
theorem lw_t2 {w : Cond} (h : w ∈ tables_1_2) : w ∈ tables_1 := List.mem_append_right _ (List.mem_append_left _ h)
theorem lw_t3 {w : Cond} (h : w ∈ tables_1_3) : w ∈ tables_1 := List.mem_append_right _ (List.mem_append_right _ h)
theorem lw_p0 : lw_okq (⟨"java/lang/Throwable", "fillInStackTrace", "(I)Ljava/lang/Throwable;"⟩, 6) := ⟨⟨by decide +kernel, by decide +kernel⟩, lw_t1 (List.mem_of_getElem? (i := 216) rfl), lw_t1 (List.mem_of_getElem? (i := 214) rfl), lw_t1 (List.mem_of_getElem? (i := 215) rfl)⟩
def lw_privs_1 : List (MethodName × Nat) := [(⟨"java/lang/Throwable", "fillInStackTrace", "(I)Ljava/lang/Throwable;"⟩, 6)]
theorem lw_r1 : ∀ q ∈ lw_privs_1, lw_okq q := List.forall_mem_cons.mpr ⟨lw_p0, fun _ h => absurd h List.not_mem_nil⟩
def lw_privs : List (MethodName × Nat) := lw_privs_1
def lw_asb : String := "java/lang/AbstractStringBuilder"
/-- private methods of AbstractStringBuilder that are called on a StringBuilder -/
def lw_xm : List MethodName := [⟨"java/lang/AbstractStringBuilder", "ensureCapacityInternal", "(I)V"⟩, ⟨"java/lang/AbstractStringBuilder", "putStringAt", "(ILjava/lang/String;)V"⟩, ⟨"java/lang/AbstractStringBuilder", "inflateIfNeededFor", "(Ljava/lang/String;)V"⟩]
def lw_xs : List Cond := lw_xm.map fun y => Cond.selects "java/lang/StringBuilder" y y
def lw_tbl : List Cond := k2_sels lw_privs ++ (tables_1 ++ lw_xs)
/-- a private method of a class whose subclass is known: the subclass selects it -/
theorem lw_xsel {y z : MethodName} {C : String} {s : State} {args : Array Value} {n : Nat} (hy : y.cls ≠ "java/lang/invoke/MethodHandle" ∧ y.cls ≠ "java/lang/invoke/VarHandle")
    (hins : (Cond.instantiable C n).before args s = true) (hany : (Cond.selects C z z).before args s = true) (hz : z.cls = y.cls) (hpriv : (Cond.privateMethod y).before args s = true) (hinst : (Cond.instanceMethod y).before args s = true) :
    (Cond.selects C y y).before args s = true := by
  obtain ⟨c, k, hc, hk, -, -, -, -⟩ := Cond.instantiable_spec hins
  obtain ⟨mk, methM, hnamed, hmethM, -, -⟩ := Cond.instanceMethod_spec hinst
  have hfound : s.methodFound? y.cls y.name y.desc = some mk := State.methodFound?_of_named hnamed hy
  have hsel : selectMethod {} s.vm c mk = .method mk := selectMethod_private hmethM (Cond.privateMethod_at hpriv mk methM hnamed hmethM)
  obtain ⟨c2, r2, m2, -, -, q3, -, kP, hkP, hkPi⟩ := Cond.selects_spec hany
  have e1 : s.vm.findClass z.cls = some m2.cls := findClass_of_methodNamed q3
  have e2 : s.vm.findClass y.cls = some mk.cls := findClass_of_methodNamed hnamed
  rw [hz] at e1
  have e3 : m2.cls = mk.cls := Option.some.inj (e1.symm.trans e2)
  rw [e3] at hkP
  simp only [Cond.before, Cond.holds, Cond.value, hc, hfound, hnamed, hsel, hkP]
  simp [hkPi]
theorem lw_xs_hts {args : Array Value} {s : State} (h : ∀ w ∈ tables_1, w.before args s = true) : ∀ w ∈ lw_xs, w.before args s = true := by
  have hins : (Cond.instantiable "java/lang/StringBuilder" 4).before args s = true := h _ (lw_t2 (List.mem_of_getElem? (i := 5) rfl))
  have hany : (Cond.selects "java/lang/StringBuilder" ⟨"java/lang/AbstractStringBuilder", "isLatin1", "()Z"⟩ ⟨"java/lang/AbstractStringBuilder", "isLatin1", "()Z"⟩).before args s = true := h _ (lw_t2 (List.mem_of_getElem? (i := 82) rfl))
  have hne : lw_asb ≠ "java/lang/invoke/MethodHandle" ∧ lw_asb ≠ "java/lang/invoke/VarHandle" := ⟨by decide +kernel, by decide +kernel⟩
  refine List.forall_mem_cons.mpr ⟨lw_xsel hne hins hany rfl (h _ (lw_t2 (List.mem_of_getElem? (i := 45) rfl))) (h _ (lw_t2 (List.mem_of_getElem? (i := 46) rfl))), List.forall_mem_cons.mpr ⟨lw_xsel hne hins hany rfl (h _ (lw_t2 (List.mem_of_getElem? (i := 98) rfl))) (h _ (lw_t2 (List.mem_of_getElem? (i := 99) rfl))), List.forall_mem_cons.mpr ⟨lw_xsel hne hins hany rfl (h _ (lw_t2 (List.mem_of_getElem? (i := 102) rfl))) (h _ (lw_t2 (List.mem_of_getElem? (i := 103) rfl))), fun _ h => absurd h List.not_mem_nil⟩⟩⟩
theorem lw_hts {args : Array Value} {s : State} (h : ∀ w ∈ k2_sels lw_privs ++ tables_1, w.before args s = true) : ∀ w ∈ lw_tbl, w.before args s = true := by
  intro w hw
  rcases List.mem_append.mp hw with q | q
  · exact h w (List.mem_append_left _ q)
  · rcases List.mem_append.mp q with r9 | r9
    · exact h w (List.mem_append_right _ r9)
    · exact lw_xs_hts (fun w hw => h w (List.mem_append_right _ hw)) w r9
theorem lw_privs_ok : ∀ q ∈ lw_privs, lw_okq q := lw_r1
-- ===== ONE list of words for every method: the tables' words that hold all through a run =====
def lw_all : List Cond := lw_tbl.filter goodWord
/-- a word of the tables by its place: claim/WORDS.tsv -/
theorem lw_w {w : Cond} (i : Nat) (h : lw_tbl[i]? = some w) (g : goodWord w = true) : w ∈ lw_all := List.mem_filter.mpr ⟨List.mem_of_getElem? h, g⟩
theorem lw_all_tbl {w : Cond} (h : w ∈ lw_all) : w ∈ lw_tbl := (List.mem_filter.mp h).1
theorem lw_self : GoodIn lw_all lw_all := fun w h => ⟨h, good_of_word (List.mem_filter.mp h).2⟩
/-- a class's field words, by their places -/
theorem lw_in (ws : List Cond) (ps : List Nat) (hp : ws = ps.filterMap (fun i => lw_tbl[i]?)) (hg : ws.all goodWord = true) : ∀ w ∈ ws, w ∈ lw_all := by
  intro w h
  have h1 := List.all_eq_true.mp hg w h
  rw [hp] at h
  obtain ⟨i, -, hi⟩ := List.mem_filterMap.mp h
  exact lw_w i hi h1
/-- the words of a contract for the method y with code b, L locals, answer r -/
abbrev ws_ (y : MethodName) (b : ByteArray) (L : Nat) (r : Option FieldType) : List Cond := Cond.code y b L r :: lw_all
theorem lw_meth {y : MethodName} {b : ByteArray} {L : Nat} {r : Option FieldType} (h : Cond.code y b L r ∈ lw_all) : GoodIn lw_all (ws_ y b L r) := by
  intro w hw
  rcases List.mem_cons.mp hw with e | e
  · rw [e]
    exact lw_self _ h
  · exact lw_self _ e
theorem lw_app {a c : List Cond} (ha : ∀ w ∈ a, w ∈ lw_all) (hc : GoodIn lw_all c) : GoodIn lw_all (a ++ c) := by
  intro w hw
  rcases List.mem_append.mp hw with e | e
  · exact lw_self w (ha w e)
  · exact hc w e
/-- what a call through an object asks: cwV n hts (lw_V ..) -/
theorem lw_V {own : String} {idx : Nat} {C : String} {y : MethodName} {b : ByteArray} {L : Nat} {r : Option FieldType} (h1 : Cond.methodLink own idx y ∈ lw_all) (h2 : Cond.instanceMethod y ∈ lw_all) (h3 : Cond.selects C y y ∈ lw_all) (h4 : Cond.initialized C ∈ lw_all) (h5 : Cond.code y b L r ∈ lw_all) : GoodIn lw_all (wsV own idx C y (ws_ y b L r)) := by
  refine lw_app ?_ (lw_meth h5)
  intro w hw
  simp only [List.mem_cons, List.not_mem_nil, or_false] at hw
  rcases hw with e | e | e | e
  · rw [e]; exact h1
  · rw [e]; exact h2
  · rw [e]; exact h3
  · rw [e]; exact h4
/-- what a static call asks: va_cwS n hts (lw_S ..) -/
theorem lw_S {own : String} {idx : Nat} {y : MethodName} {b : ByteArray} {L : Nat} {r : Option FieldType} (h1 : Cond.methodLink own idx y ∈ lw_all) (h2 : Cond.static y ∈ lw_all) (h3 : Cond.initialized y.cls ∈ lw_all) (h4 : Cond.code y b L r ∈ lw_all) : GoodIn lw_all (va_wsS own idx y (ws_ y b L r)) := by
  refine lw_app ?_ (lw_meth h4)
  intro w hw
  simp only [List.mem_cons, List.not_mem_nil, or_false] at hw
  rcases hw with e | e | e
  · rw [e]; exact h1
  · rw [e]; exact h2
  · rw [e]; exact h3
/-- the words of a contract for a method WITH HANDLERS (hh: its table) -/
abbrev wsW_ (y : MethodName) (b : ByteArray) (L : Nat) (r : Option FieldType) (hh : List (Nat × Nat × Nat × Nat)) : List Cond := Cond.codeWith y b L r hh :: lw_all
theorem lw_methW {y : MethodName} {b : ByteArray} {L : Nat} {r : Option FieldType} {hh : List (Nat × Nat × Nat × Nat)} (h : Cond.codeWith y b L r hh ∈ lw_all) : GoodIn lw_all (wsW_ y b L r hh) := by
  intro w hw
  rcases List.mem_cons.mp hw with e | e
  · rw [e]
    exact lw_self _ h
  · exact lw_self _ e
/-- any list of words by their places (lw_in), good -/
theorem lw_good {ws : List Cond} (h : ∀ w ∈ ws, w ∈ lw_all) : GoodIn lw_all ws := fun w hw => lw_self w (h w hw)
/-- what a call of a method with handlers asks: vx_cwVW n hts (lw_VW ..), vx_cwSW n hts (lw_SW ..) -/
theorem lw_VW {own : String} {idx : Nat} {C : String} {y : MethodName} {b : ByteArray} {L : Nat} {r : Option FieldType} {hh : List (Nat × Nat × Nat × Nat)} (h1 : Cond.methodLink own idx y ∈ lw_all) (h2 : Cond.instanceMethod y ∈ lw_all) (h3 : Cond.selects C y y ∈ lw_all) (h4 : Cond.initialized C ∈ lw_all) (h5 : Cond.codeWith y b L r hh ∈ lw_all) : GoodIn lw_all (wsV own idx C y (wsW_ y b L r hh)) := by
  refine lw_app ?_ (lw_methW h5)
  intro w hw
  simp only [List.mem_cons, List.not_mem_nil, or_false] at hw
  rcases hw with e | e | e | e
  · rw [e]; exact h1
  · rw [e]; exact h2
  · rw [e]; exact h3
  · rw [e]; exact h4
theorem lw_SW {own : String} {idx : Nat} {y : MethodName} {b : ByteArray} {L : Nat} {r : Option FieldType} {hh : List (Nat × Nat × Nat × Nat)} (h1 : Cond.methodLink own idx y ∈ lw_all) (h2 : Cond.static y ∈ lw_all) (h3 : Cond.initialized y.cls ∈ lw_all) (h4 : Cond.codeWith y b L r hh ∈ lw_all) : GoodIn lw_all (va_wsS own idx y (wsW_ y b L r hh)) := by
  refine lw_app ?_ (lw_methW h4)
  intro w hw
  simp only [List.mem_cons, List.not_mem_nil, or_false] at hw
  rcases hw with e | e | e
  · rw [e]; exact h1
  · rw [e]; exact h2
  · rw [e]; exact h3
/-- a word by its place in its run of the tables -/
theorem lw_at {r : List Cond} (hr : ∀ w ∈ r, w ∈ lw_tbl) {w : Cond} (i : Nat) (h : r[i]? = some w) : w ∈ lw_tbl := hr w (List.mem_of_getElem? h)
theorem lw_g {w : Cond} (h : w ∈ lw_tbl) (g : goodWord w = true) : w ∈ lw_all := List.mem_filter.mpr ⟨h, g⟩
theorem lw_ms : ∀ w ∈ k2_sels lw_privs, w ∈ lw_tbl := fun w h => show w ∈ k2_sels lw_privs ++ (tables_1 ++ lw_xs) from List.mem_append_left _ h
theorem lw_mx : ∀ w ∈ lw_xs, w ∈ lw_tbl := fun w h => show w ∈ k2_sels lw_privs ++ (tables_1 ++ lw_xs) from List.mem_append_right (k2_sels lw_privs) (List.mem_append_right tables_1 h)
theorem lw_m1 : ∀ w ∈ tables_1_1, w ∈ lw_tbl := fun w h => show w ∈ k2_sels lw_privs ++ (tables_1 ++ lw_xs) from List.mem_append_right (k2_sels lw_privs) (List.mem_append_left lw_xs (show w ∈ tables_1 from List.mem_append_left _ h))
theorem lw_m2 : ∀ w ∈ tables_1_2, w ∈ lw_tbl := fun w h => show w ∈ k2_sels lw_privs ++ (tables_1 ++ lw_xs) from List.mem_append_right (k2_sels lw_privs) (List.mem_append_left lw_xs (show w ∈ tables_1 from List.mem_append_right _ (List.mem_append_left _ h)))
theorem lw_m3 : ∀ w ∈ tables_1_3, w ∈ lw_tbl := fun w h => show w ∈ k2_sels lw_privs ++ (tables_1 ++ lw_xs) from List.mem_append_right (k2_sels lw_privs) (List.mem_append_left lw_xs (show w ∈ tables_1 from List.mem_append_right _ (List.mem_append_right _ h)))
theorem qs0 : (Cond.selects "java/lang/Throwable" ⟨"java/lang/Throwable", "fillInStackTrace", "(I)Ljava/lang/Throwable;"⟩ ⟨"java/lang/Throwable", "fillInStackTrace", "(I)Ljava/lang/Throwable;"⟩) ∈ lw_all := lw_g (lw_at lw_ms 0 rfl) rfl
theorem qx0 : (Cond.selects "java/lang/StringBuilder" ⟨"java/lang/AbstractStringBuilder", "ensureCapacityInternal", "(I)V"⟩ ⟨"java/lang/AbstractStringBuilder", "ensureCapacityInternal", "(I)V"⟩) ∈ lw_all := lw_g (lw_at lw_mx 0 rfl) rfl
theorem qx1 : (Cond.selects "java/lang/StringBuilder" ⟨"java/lang/AbstractStringBuilder", "putStringAt", "(ILjava/lang/String;)V"⟩ ⟨"java/lang/AbstractStringBuilder", "putStringAt", "(ILjava/lang/String;)V"⟩) ∈ lw_all := lw_g (lw_at lw_mx 1 rfl) rfl
theorem qx2 : (Cond.selects "java/lang/StringBuilder" ⟨"java/lang/AbstractStringBuilder", "inflateIfNeededFor", "(Ljava/lang/String;)V"⟩ ⟨"java/lang/AbstractStringBuilder", "inflateIfNeededFor", "(Ljava/lang/String;)V"⟩) ∈ lw_all := lw_g (lw_at lw_mx 2 rfl) rfl
end
section
/-! NAMES: out of claim/names (starting texts): the opcodes' lemmas, the classes, the methods that are walked, the words that are used -/
/-! DECODE ROWS BY BYTES: one lemma an opcode; a method's code is cut into short pieces once, and a row reads its own piece alone. -/
set_option maxRecDepth 100000
/-- the code has just these bytes from pc on -/
def DkAt (code : ByteArray) (pc : Nat) (bs : List UInt8) : Prop := ∀ (j : Nat) (b : UInt8), bs[j]? = some b → code.data.toList[pc + j]? = some b
/-- the piece W has the bytes bs from its place j on -/
def dkIn (W : List UInt8) (j : Nat) (bs : List UInt8) : Bool := decide ((W.drop j).take bs.length = bs)
theorem dk_seg {l W T : List UInt8} {o o2 : Nat} (h : l.drop o = W ++ T) (n : Nat) (hn : W.length = n) (ho : o + n = o2) : l.drop o2 = T := by
  subst ho
  rw [← List.drop_drop, h, List.drop_left' hn]
theorem dk_at {code : ByteArray} {W T bs : List UInt8} {o pc : Nat} (h : code.data.toList.drop o = W ++ T) (j : Nat) (hp : o + j = pc) (hw : dkIn W j bs = true) : DkAt code pc bs := by
  subst hp
  intro i b e
  have h1 := of_decide_eq_true hw
  have h2 : i < bs.length := (List.getElem?_eq_some_iff.mp e).1
  have h3 : W[j + i]? = some b := by
    rw [← h1, List.getElem?_take, if_pos h2, List.getElem?_drop] at e
    exact e
  have h4 : j + i < W.length := (List.getElem?_eq_some_iff.mp h3).1
  have h5 : (code.data.toList.drop o)[j + i]? = some b := by
    rw [h, List.getElem?_append_left h4]
    exact h3
  rw [List.getElem?_drop, ← Nat.add_assoc] at h5
  exact h5
theorem dk_u1 {A : ByteArray} {p : Nat} {b : UInt8} (h : A.data.toList[p]? = some b) : (Reader.u1 : Reader DecodeError Nat) A p = .ok (b.toNat, p + 1) := by
  obtain ⟨h1, h2⟩ := List.getElem?_eq_some_iff.mp h
  have h3 : p < A.size := by simpa using h1
  have h4 : A[p]'h3 = b := h2
  have e : (Reader.u1 : Reader DecodeError Nat) A p = (if h : p < A.size then .ok (A[p].toNat, p + 1) else .error (HasTruncated.truncated p)) := by
    show (do if h : p < A.size then do set (p + 1); Pure.pure A[p].toNat else MonadExcept.throw (HasTruncated.truncated p) : Reader DecodeError Nat) A p = _
    by_cases hi : p < A.size
    · rw [dif_pos hi, dif_pos hi]; rfl
    · rw [dif_neg hi, dif_neg hi]; rfl
  rw [e, dif_pos h3, h4]
theorem dk_bind {α β : Type} {r : Reader DecodeError α} {f : α → Reader DecodeError β} {A : ByteArray} {p s : Nat} {a : α} (h : r A p = .ok (a, s)) : (r >>= f) A p = f a A s := by
  show (do let (a, s) ← r A p; f a A s : Except DecodeError (β × Nat)) = _
  rw [h]
  rfl
theorem dk_map {α β : Type} {r : Reader DecodeError α} {g : α → β} {A : ByteArray} {p s : Nat} {a : α} (h : r A p = .ok (a, s)) : (g <$> r) A p = .ok (g a, s) := by
  show (do let (a, s) ← r A p; .ok (g a, s) : Except DecodeError (β × Nat)) = _
  rw [h]
  rfl
theorem dk_u2 {A : ByteArray} {p : Nat} {a b : UInt8} (h : A.data.toList[p]? = some a) (h2 : A.data.toList[p + 1]? = some b) : (Reader.u2 : Reader DecodeError Nat) A p = .ok (a.toNat * 256 + b.toNat, p + 2) := by
  show (Reader.u1 >>= fun hi => Reader.u1 >>= fun lo => Pure.pure (hi * 256 + lo) : Reader DecodeError Nat) A p = _
  rw [dk_bind (dk_u1 h), dk_bind (dk_u1 h2)]
  rfl
theorem dk_of {code : ByteArray} {pc n : Nat} {i : Instr} (h : Decoder.instr pc code pc = .ok (i, pc + n)) : decode code pc = .ok (i, n) := by
  have e : decode code pc = (match Decoder.instr pc code pc with | .error x => .error x | .ok (j, s) => .ok (j, s - pc)) := by
    show (do let (j, s) ← Decoder.instr pc code pc; Pure.pure (j, s - pc) : Except DecodeError (Instr × Nat)) = _
    cases Decoder.instr pc code pc <;> rfl
  rw [e, h]
  show Except.ok (i, pc + n - pc) = _
  rw [Nat.add_sub_cancel_left]
theorem dk_1 {code : ByteArray} {pc : Nat} (h : DkAt code pc [1]) : decode code pc = .ok (.aconst_null, 1) := dk_of ((dk_bind (dk_u1 (h 0 _ rfl))).trans rfl)
theorem dk_2 {code : ByteArray} {pc : Nat} (h : DkAt code pc [2]) : decode code pc = .ok (.iconst (-1), 1) := dk_of ((dk_bind (dk_u1 (h 0 _ rfl))).trans rfl)
theorem dk_3 {code : ByteArray} {pc : Nat} (h : DkAt code pc [3]) : decode code pc = .ok (.iconst 0, 1) := dk_of ((dk_bind (dk_u1 (h 0 _ rfl))).trans rfl)
theorem dk_4 {code : ByteArray} {pc : Nat} (h : DkAt code pc [4]) : decode code pc = .ok (.iconst 1, 1) := dk_of ((dk_bind (dk_u1 (h 0 _ rfl))).trans rfl)
theorem dk_5 {code : ByteArray} {pc : Nat} (h : DkAt code pc [5]) : decode code pc = .ok (.iconst 2, 1) := dk_of ((dk_bind (dk_u1 (h 0 _ rfl))).trans rfl)
theorem dk_6 {code : ByteArray} {pc : Nat} (h : DkAt code pc [6]) : decode code pc = .ok (.iconst 3, 1) := dk_of ((dk_bind (dk_u1 (h 0 _ rfl))).trans rfl)
theorem dk_7 {code : ByteArray} {pc : Nat} (h : DkAt code pc [7]) : decode code pc = .ok (.iconst 4, 1) := dk_of ((dk_bind (dk_u1 (h 0 _ rfl))).trans rfl)
theorem dk_8 {code : ByteArray} {pc : Nat} (h : DkAt code pc [8]) : decode code pc = .ok (.iconst 5, 1) := dk_of ((dk_bind (dk_u1 (h 0 _ rfl))).trans rfl)
theorem dk_16 {code : ByteArray} {pc : Nat} (a : UInt8) (h : DkAt code pc [16, a]) : decode code pc = .ok (.bipush (Reader.signed 8 a.toNat), 2) := dk_of ((dk_bind (dk_u1 (h 0 _ rfl))).trans ((dk_bind (dk_map (dk_u1 (h 1 _ rfl)))).trans rfl))
theorem dk_17 {code : ByteArray} {pc : Nat} (a b : UInt8) (h : DkAt code pc [17, a, b]) : decode code pc = .ok (.sipush (Reader.signed 16 (a.toNat * 256 + b.toNat)), 3) := dk_of ((dk_bind (dk_u1 (h 0 _ rfl))).trans ((dk_bind (dk_map (dk_u2 (h 1 _ rfl) (h 2 _ rfl)))).trans rfl))
theorem dk_18 {code : ByteArray} {pc : Nat} (a : UInt8) (h : DkAt code pc [18, a]) : decode code pc = .ok (.ldc a.toNat, 2) := dk_of ((dk_bind (dk_u1 (h 0 _ rfl))).trans ((dk_bind (dk_u1 (h 1 _ rfl))).trans rfl))
theorem dk_19 {code : ByteArray} {pc : Nat} (a b : UInt8) (h : DkAt code pc [19, a, b]) : decode code pc = .ok (.ldc_w (a.toNat * 256 + b.toNat), 3) := dk_of ((dk_bind (dk_u1 (h 0 _ rfl))).trans ((dk_bind (dk_u2 (h 1 _ rfl) (h 2 _ rfl))).trans rfl))
theorem dk_21 {code : ByteArray} {pc : Nat} (a : UInt8) (h : DkAt code pc [21, a]) : decode code pc = .ok (.iload a.toNat, 2) := dk_of ((dk_bind (dk_u1 (h 0 _ rfl))).trans ((dk_bind (dk_u1 (h 1 _ rfl))).trans rfl))
theorem dk_25 {code : ByteArray} {pc : Nat} (a : UInt8) (h : DkAt code pc [25, a]) : decode code pc = .ok (.aload a.toNat, 2) := dk_of ((dk_bind (dk_u1 (h 0 _ rfl))).trans ((dk_bind (dk_u1 (h 1 _ rfl))).trans rfl))
theorem dk_26 {code : ByteArray} {pc : Nat} (h : DkAt code pc [26]) : decode code pc = .ok (.iload_n 0, 1) := dk_of ((dk_bind (dk_u1 (h 0 _ rfl))).trans rfl)
theorem dk_27 {code : ByteArray} {pc : Nat} (h : DkAt code pc [27]) : decode code pc = .ok (.iload_n 1, 1) := dk_of ((dk_bind (dk_u1 (h 0 _ rfl))).trans rfl)
theorem dk_28 {code : ByteArray} {pc : Nat} (h : DkAt code pc [28]) : decode code pc = .ok (.iload_n 2, 1) := dk_of ((dk_bind (dk_u1 (h 0 _ rfl))).trans rfl)
theorem dk_29 {code : ByteArray} {pc : Nat} (h : DkAt code pc [29]) : decode code pc = .ok (.iload_n 3, 1) := dk_of ((dk_bind (dk_u1 (h 0 _ rfl))).trans rfl)
theorem dk_42 {code : ByteArray} {pc : Nat} (h : DkAt code pc [42]) : decode code pc = .ok (.aload_n 0, 1) := dk_of ((dk_bind (dk_u1 (h 0 _ rfl))).trans rfl)
theorem dk_43 {code : ByteArray} {pc : Nat} (h : DkAt code pc [43]) : decode code pc = .ok (.aload_n 1, 1) := dk_of ((dk_bind (dk_u1 (h 0 _ rfl))).trans rfl)
theorem dk_44 {code : ByteArray} {pc : Nat} (h : DkAt code pc [44]) : decode code pc = .ok (.aload_n 2, 1) := dk_of ((dk_bind (dk_u1 (h 0 _ rfl))).trans rfl)
theorem dk_45 {code : ByteArray} {pc : Nat} (h : DkAt code pc [45]) : decode code pc = .ok (.aload_n 3, 1) := dk_of ((dk_bind (dk_u1 (h 0 _ rfl))).trans rfl)
theorem dk_46 {code : ByteArray} {pc : Nat} (h : DkAt code pc [46]) : decode code pc = .ok (.iaload, 1) := dk_of ((dk_bind (dk_u1 (h 0 _ rfl))).trans rfl)
theorem dk_50 {code : ByteArray} {pc : Nat} (h : DkAt code pc [50]) : decode code pc = .ok (.aaload, 1) := dk_of ((dk_bind (dk_u1 (h 0 _ rfl))).trans rfl)
theorem dk_51 {code : ByteArray} {pc : Nat} (h : DkAt code pc [51]) : decode code pc = .ok (.baload, 1) := dk_of ((dk_bind (dk_u1 (h 0 _ rfl))).trans rfl)
theorem dk_52 {code : ByteArray} {pc : Nat} (h : DkAt code pc [52]) : decode code pc = .ok (.caload, 1) := dk_of ((dk_bind (dk_u1 (h 0 _ rfl))).trans rfl)
theorem dk_54 {code : ByteArray} {pc : Nat} (a : UInt8) (h : DkAt code pc [54, a]) : decode code pc = .ok (.istore a.toNat, 2) := dk_of ((dk_bind (dk_u1 (h 0 _ rfl))).trans ((dk_bind (dk_u1 (h 1 _ rfl))).trans rfl))
theorem dk_58 {code : ByteArray} {pc : Nat} (a : UInt8) (h : DkAt code pc [58, a]) : decode code pc = .ok (.astore a.toNat, 2) := dk_of ((dk_bind (dk_u1 (h 0 _ rfl))).trans ((dk_bind (dk_u1 (h 1 _ rfl))).trans rfl))
theorem dk_60 {code : ByteArray} {pc : Nat} (h : DkAt code pc [60]) : decode code pc = .ok (.istore_n 1, 1) := dk_of ((dk_bind (dk_u1 (h 0 _ rfl))).trans rfl)
theorem dk_61 {code : ByteArray} {pc : Nat} (h : DkAt code pc [61]) : decode code pc = .ok (.istore_n 2, 1) := dk_of ((dk_bind (dk_u1 (h 0 _ rfl))).trans rfl)
theorem dk_62 {code : ByteArray} {pc : Nat} (h : DkAt code pc [62]) : decode code pc = .ok (.istore_n 3, 1) := dk_of ((dk_bind (dk_u1 (h 0 _ rfl))).trans rfl)
theorem dk_76 {code : ByteArray} {pc : Nat} (h : DkAt code pc [76]) : decode code pc = .ok (.astore_n 1, 1) := dk_of ((dk_bind (dk_u1 (h 0 _ rfl))).trans rfl)
theorem dk_77 {code : ByteArray} {pc : Nat} (h : DkAt code pc [77]) : decode code pc = .ok (.astore_n 2, 1) := dk_of ((dk_bind (dk_u1 (h 0 _ rfl))).trans rfl)
theorem dk_78 {code : ByteArray} {pc : Nat} (h : DkAt code pc [78]) : decode code pc = .ok (.astore_n 3, 1) := dk_of ((dk_bind (dk_u1 (h 0 _ rfl))).trans rfl)
theorem dk_79 {code : ByteArray} {pc : Nat} (h : DkAt code pc [79]) : decode code pc = .ok (.iastore, 1) := dk_of ((dk_bind (dk_u1 (h 0 _ rfl))).trans rfl)
theorem dk_84 {code : ByteArray} {pc : Nat} (h : DkAt code pc [84]) : decode code pc = .ok (.bastore, 1) := dk_of ((dk_bind (dk_u1 (h 0 _ rfl))).trans rfl)
theorem dk_85 {code : ByteArray} {pc : Nat} (h : DkAt code pc [85]) : decode code pc = .ok (.castore, 1) := dk_of ((dk_bind (dk_u1 (h 0 _ rfl))).trans rfl)
theorem dk_87 {code : ByteArray} {pc : Nat} (h : DkAt code pc [87]) : decode code pc = .ok (.pop, 1) := dk_of ((dk_bind (dk_u1 (h 0 _ rfl))).trans rfl)
theorem dk_89 {code : ByteArray} {pc : Nat} (h : DkAt code pc [89]) : decode code pc = .ok (.dup, 1) := dk_of ((dk_bind (dk_u1 (h 0 _ rfl))).trans rfl)
theorem dk_90 {code : ByteArray} {pc : Nat} (h : DkAt code pc [90]) : decode code pc = .ok (.dup_x1, 1) := dk_of ((dk_bind (dk_u1 (h 0 _ rfl))).trans rfl)
theorem dk_92 {code : ByteArray} {pc : Nat} (h : DkAt code pc [92]) : decode code pc = .ok (.dup2, 1) := dk_of ((dk_bind (dk_u1 (h 0 _ rfl))).trans rfl)
theorem dk_96 {code : ByteArray} {pc : Nat} (h : DkAt code pc [96]) : decode code pc = .ok (.iadd, 1) := dk_of ((dk_bind (dk_u1 (h 0 _ rfl))).trans rfl)
theorem dk_100 {code : ByteArray} {pc : Nat} (h : DkAt code pc [100]) : decode code pc = .ok (.isub, 1) := dk_of ((dk_bind (dk_u1 (h 0 _ rfl))).trans rfl)
theorem dk_104 {code : ByteArray} {pc : Nat} (h : DkAt code pc [104]) : decode code pc = .ok (.imul, 1) := dk_of ((dk_bind (dk_u1 (h 0 _ rfl))).trans rfl)
theorem dk_108 {code : ByteArray} {pc : Nat} (h : DkAt code pc [108]) : decode code pc = .ok (.idiv, 1) := dk_of ((dk_bind (dk_u1 (h 0 _ rfl))).trans rfl)
theorem dk_112 {code : ByteArray} {pc : Nat} (h : DkAt code pc [112]) : decode code pc = .ok (.irem, 1) := dk_of ((dk_bind (dk_u1 (h 0 _ rfl))).trans rfl)
theorem dk_120 {code : ByteArray} {pc : Nat} (h : DkAt code pc [120]) : decode code pc = .ok (.ishl, 1) := dk_of ((dk_bind (dk_u1 (h 0 _ rfl))).trans rfl)
theorem dk_122 {code : ByteArray} {pc : Nat} (h : DkAt code pc [122]) : decode code pc = .ok (.ishr, 1) := dk_of ((dk_bind (dk_u1 (h 0 _ rfl))).trans rfl)
theorem dk_124 {code : ByteArray} {pc : Nat} (h : DkAt code pc [124]) : decode code pc = .ok (.iushr, 1) := dk_of ((dk_bind (dk_u1 (h 0 _ rfl))).trans rfl)
theorem dk_126 {code : ByteArray} {pc : Nat} (h : DkAt code pc [126]) : decode code pc = .ok (.iand, 1) := dk_of ((dk_bind (dk_u1 (h 0 _ rfl))).trans rfl)
theorem dk_128 {code : ByteArray} {pc : Nat} (h : DkAt code pc [128]) : decode code pc = .ok (.ior, 1) := dk_of ((dk_bind (dk_u1 (h 0 _ rfl))).trans rfl)
theorem dk_130 {code : ByteArray} {pc : Nat} (h : DkAt code pc [130]) : decode code pc = .ok (.ixor, 1) := dk_of ((dk_bind (dk_u1 (h 0 _ rfl))).trans rfl)
theorem dk_132 {code : ByteArray} {pc : Nat} (a b : UInt8) (h : DkAt code pc [132, a, b]) : decode code pc = .ok (.iinc a.toNat (Reader.signed 8 b.toNat), 3) := dk_of ((dk_bind (dk_u1 (h 0 _ rfl))).trans ((dk_bind (dk_u1 (h 1 _ rfl))).trans ((dk_bind (dk_map (dk_u1 (h 2 _ rfl)))).trans rfl)))
theorem dk_145 {code : ByteArray} {pc : Nat} (h : DkAt code pc [145]) : decode code pc = .ok (.i2b, 1) := dk_of ((dk_bind (dk_u1 (h 0 _ rfl))).trans rfl)
theorem dk_146 {code : ByteArray} {pc : Nat} (h : DkAt code pc [146]) : decode code pc = .ok (.i2c, 1) := dk_of ((dk_bind (dk_u1 (h 0 _ rfl))).trans rfl)
theorem dk_153 {code : ByteArray} {pc : Nat} (a b : UInt8) (h : DkAt code pc [153, a, b]) : decode code pc = .ok (.ifCond .eq (Reader.signed 16 (a.toNat * 256 + b.toNat)), 3) := dk_of ((dk_bind (dk_u1 (h 0 _ rfl))).trans ((dk_bind (dk_map (dk_u2 (h 1 _ rfl) (h 2 _ rfl)))).trans rfl))
theorem dk_154 {code : ByteArray} {pc : Nat} (a b : UInt8) (h : DkAt code pc [154, a, b]) : decode code pc = .ok (.ifCond .ne (Reader.signed 16 (a.toNat * 256 + b.toNat)), 3) := dk_of ((dk_bind (dk_u1 (h 0 _ rfl))).trans ((dk_bind (dk_map (dk_u2 (h 1 _ rfl) (h 2 _ rfl)))).trans rfl))
theorem dk_155 {code : ByteArray} {pc : Nat} (a b : UInt8) (h : DkAt code pc [155, a, b]) : decode code pc = .ok (.ifCond .lt (Reader.signed 16 (a.toNat * 256 + b.toNat)), 3) := dk_of ((dk_bind (dk_u1 (h 0 _ rfl))).trans ((dk_bind (dk_map (dk_u2 (h 1 _ rfl) (h 2 _ rfl)))).trans rfl))
theorem dk_156 {code : ByteArray} {pc : Nat} (a b : UInt8) (h : DkAt code pc [156, a, b]) : decode code pc = .ok (.ifCond .ge (Reader.signed 16 (a.toNat * 256 + b.toNat)), 3) := dk_of ((dk_bind (dk_u1 (h 0 _ rfl))).trans ((dk_bind (dk_map (dk_u2 (h 1 _ rfl) (h 2 _ rfl)))).trans rfl))
theorem dk_158 {code : ByteArray} {pc : Nat} (a b : UInt8) (h : DkAt code pc [158, a, b]) : decode code pc = .ok (.ifCond .le (Reader.signed 16 (a.toNat * 256 + b.toNat)), 3) := dk_of ((dk_bind (dk_u1 (h 0 _ rfl))).trans ((dk_bind (dk_map (dk_u2 (h 1 _ rfl) (h 2 _ rfl)))).trans rfl))
theorem dk_159 {code : ByteArray} {pc : Nat} (a b : UInt8) (h : DkAt code pc [159, a, b]) : decode code pc = .ok (.if_icmp .eq (Reader.signed 16 (a.toNat * 256 + b.toNat)), 3) := dk_of ((dk_bind (dk_u1 (h 0 _ rfl))).trans ((dk_bind (dk_map (dk_u2 (h 1 _ rfl) (h 2 _ rfl)))).trans rfl))
theorem dk_160 {code : ByteArray} {pc : Nat} (a b : UInt8) (h : DkAt code pc [160, a, b]) : decode code pc = .ok (.if_icmp .ne (Reader.signed 16 (a.toNat * 256 + b.toNat)), 3) := dk_of ((dk_bind (dk_u1 (h 0 _ rfl))).trans ((dk_bind (dk_map (dk_u2 (h 1 _ rfl) (h 2 _ rfl)))).trans rfl))
theorem dk_161 {code : ByteArray} {pc : Nat} (a b : UInt8) (h : DkAt code pc [161, a, b]) : decode code pc = .ok (.if_icmp .lt (Reader.signed 16 (a.toNat * 256 + b.toNat)), 3) := dk_of ((dk_bind (dk_u1 (h 0 _ rfl))).trans ((dk_bind (dk_map (dk_u2 (h 1 _ rfl) (h 2 _ rfl)))).trans rfl))
theorem dk_162 {code : ByteArray} {pc : Nat} (a b : UInt8) (h : DkAt code pc [162, a, b]) : decode code pc = .ok (.if_icmp .ge (Reader.signed 16 (a.toNat * 256 + b.toNat)), 3) := dk_of ((dk_bind (dk_u1 (h 0 _ rfl))).trans ((dk_bind (dk_map (dk_u2 (h 1 _ rfl) (h 2 _ rfl)))).trans rfl))
theorem dk_163 {code : ByteArray} {pc : Nat} (a b : UInt8) (h : DkAt code pc [163, a, b]) : decode code pc = .ok (.if_icmp .gt (Reader.signed 16 (a.toNat * 256 + b.toNat)), 3) := dk_of ((dk_bind (dk_u1 (h 0 _ rfl))).trans ((dk_bind (dk_map (dk_u2 (h 1 _ rfl) (h 2 _ rfl)))).trans rfl))
theorem dk_164 {code : ByteArray} {pc : Nat} (a b : UInt8) (h : DkAt code pc [164, a, b]) : decode code pc = .ok (.if_icmp .le (Reader.signed 16 (a.toNat * 256 + b.toNat)), 3) := dk_of ((dk_bind (dk_u1 (h 0 _ rfl))).trans ((dk_bind (dk_map (dk_u2 (h 1 _ rfl) (h 2 _ rfl)))).trans rfl))
theorem dk_167 {code : ByteArray} {pc : Nat} (a b : UInt8) (h : DkAt code pc [167, a, b]) : decode code pc = .ok (.goto (Reader.signed 16 (a.toNat * 256 + b.toNat)), 3) := dk_of ((dk_bind (dk_u1 (h 0 _ rfl))).trans ((dk_bind (dk_map (dk_u2 (h 1 _ rfl) (h 2 _ rfl)))).trans rfl))
theorem dk_172 {code : ByteArray} {pc : Nat} (h : DkAt code pc [172]) : decode code pc = .ok (.ireturn, 1) := dk_of ((dk_bind (dk_u1 (h 0 _ rfl))).trans rfl)
theorem dk_176 {code : ByteArray} {pc : Nat} (h : DkAt code pc [176]) : decode code pc = .ok (.areturn, 1) := dk_of ((dk_bind (dk_u1 (h 0 _ rfl))).trans rfl)
theorem dk_177 {code : ByteArray} {pc : Nat} (h : DkAt code pc [177]) : decode code pc = .ok (.return_, 1) := dk_of ((dk_bind (dk_u1 (h 0 _ rfl))).trans rfl)
theorem dk_178 {code : ByteArray} {pc : Nat} (a b : UInt8) (h : DkAt code pc [178, a, b]) : decode code pc = .ok (.getstatic (a.toNat * 256 + b.toNat), 3) := dk_of ((dk_bind (dk_u1 (h 0 _ rfl))).trans ((dk_bind (dk_u2 (h 1 _ rfl) (h 2 _ rfl))).trans rfl))
theorem dk_180 {code : ByteArray} {pc : Nat} (a b : UInt8) (h : DkAt code pc [180, a, b]) : decode code pc = .ok (.getfield (a.toNat * 256 + b.toNat), 3) := dk_of ((dk_bind (dk_u1 (h 0 _ rfl))).trans ((dk_bind (dk_u2 (h 1 _ rfl) (h 2 _ rfl))).trans rfl))
theorem dk_181 {code : ByteArray} {pc : Nat} (a b : UInt8) (h : DkAt code pc [181, a, b]) : decode code pc = .ok (.putfield (a.toNat * 256 + b.toNat), 3) := dk_of ((dk_bind (dk_u1 (h 0 _ rfl))).trans ((dk_bind (dk_u2 (h 1 _ rfl) (h 2 _ rfl))).trans rfl))
theorem dk_182 {code : ByteArray} {pc : Nat} (a b : UInt8) (h : DkAt code pc [182, a, b]) : decode code pc = .ok (.invokevirtual (a.toNat * 256 + b.toNat), 3) := dk_of ((dk_bind (dk_u1 (h 0 _ rfl))).trans ((dk_bind (dk_u2 (h 1 _ rfl) (h 2 _ rfl))).trans rfl))
theorem dk_183 {code : ByteArray} {pc : Nat} (a b : UInt8) (h : DkAt code pc [183, a, b]) : decode code pc = .ok (.invokespecial (a.toNat * 256 + b.toNat), 3) := dk_of ((dk_bind (dk_u1 (h 0 _ rfl))).trans ((dk_bind (dk_u2 (h 1 _ rfl) (h 2 _ rfl))).trans rfl))
theorem dk_184 {code : ByteArray} {pc : Nat} (a b : UInt8) (h : DkAt code pc [184, a, b]) : decode code pc = .ok (.invokestatic (a.toNat * 256 + b.toNat), 3) := dk_of ((dk_bind (dk_u1 (h 0 _ rfl))).trans ((dk_bind (dk_u2 (h 1 _ rfl) (h 2 _ rfl))).trans rfl))
theorem dk_187 {code : ByteArray} {pc : Nat} (a b : UInt8) (h : DkAt code pc [187, a, b]) : decode code pc = .ok (.new (a.toNat * 256 + b.toNat), 3) := dk_of ((dk_bind (dk_u1 (h 0 _ rfl))).trans ((dk_bind (dk_u2 (h 1 _ rfl) (h 2 _ rfl))).trans rfl))
theorem dk_188_5 {code : ByteArray} {pc : Nat} (h : DkAt code pc [188, 5]) : decode code pc = .ok (.newarray .char, 2) := dk_of ((dk_bind (dk_u1 (h 0 _ rfl))).trans ((dk_bind (dk_u1 (h 1 _ rfl))).trans rfl))
theorem dk_188_8 {code : ByteArray} {pc : Nat} (h : DkAt code pc [188, 8]) : decode code pc = .ok (.newarray .byte, 2) := dk_of ((dk_bind (dk_u1 (h 0 _ rfl))).trans ((dk_bind (dk_u1 (h 1 _ rfl))).trans rfl))
theorem dk_188_10 {code : ByteArray} {pc : Nat} (h : DkAt code pc [188, 10]) : decode code pc = .ok (.newarray .int, 2) := dk_of ((dk_bind (dk_u1 (h 0 _ rfl))).trans ((dk_bind (dk_u1 (h 1 _ rfl))).trans rfl))
theorem dk_190 {code : ByteArray} {pc : Nat} (h : DkAt code pc [190]) : decode code pc = .ok (.arraylength, 1) := dk_of ((dk_bind (dk_u1 (h 0 _ rfl))).trans rfl)
theorem dk_191 {code : ByteArray} {pc : Nat} (h : DkAt code pc [191]) : decode code pc = .ok (.athrow, 1) := dk_of ((dk_bind (dk_u1 (h 0 _ rfl))).trans rfl)
theorem dk_192 {code : ByteArray} {pc : Nat} (a b : UInt8) (h : DkAt code pc [192, a, b]) : decode code pc = .ok (.checkcast (a.toNat * 256 + b.toNat), 3) := dk_of ((dk_bind (dk_u1 (h 0 _ rfl))).trans ((dk_bind (dk_u2 (h 1 _ rfl) (h 2 _ rfl))).trans rfl))
theorem dk_199 {code : ByteArray} {pc : Nat} (a b : UInt8) (h : DkAt code pc [199, a, b]) : decode code pc = .ok (.ifnonnull (Reader.signed 16 (a.toNat * 256 + b.toNat)), 3) := dk_of ((dk_bind (dk_u1 (h 0 _ rfl))).trans ((dk_bind (dk_map (dk_u2 (h 1 _ rfl) (h 2 _ rfl)))).trans rfl))

def RJ0 : String := "java/lang/String"
def TJ0 : u_T := fun k => match k with
  | 0 => ("java/lang/String", "value", "[B", true)
  | 1 => ("java/lang/String", "coder", "B", true)
  | 2 => ("java/lang/String", "hash", "I", false)
  | _ => ("java/lang/String", "hashIsZero", "Z", false)
def tyJ0 : Nat → FieldType := fun k => match k with
  | 0 => .array .byte
  | 1 => .byte
  | 2 => .int
  | _ => .boolean
abbrev wsJ00 : List Cond := u_ws RJ0 TJ0 4
theorem nmJ0 : ∀ a, a < 4 → ∀ b, b < 4 → a ≠ b → (TJ0 a).2.1 ≠ (TJ0 b).2.1 := by decide +kernel
theorem tyJ0_ok : ∀ k, k < 4 → parseFieldDescriptor (TJ0 k).2.2.1 = some (tyJ0 k) := by decide +kernel
abbrev cJ0_init : ByteArray := prog_13_method_4_code
def yJ0_init : MethodName := ⟨RJ0, "<init>", "([CII)V"⟩
def dkwJ0_init_0 : List UInt8 := [42, 43, 28, 29, 43, 28, 29, 184, 0, 30, 183, 0, 27, 177]
abbrev dktJ0_init_0 : List UInt8 := dkwJ0_init_0 ++ []
theorem dksJ0_init_0 : cJ0_init.data.toList.drop 0 = dktJ0_init_0 := by decide +kernel
theorem dJ0_init_0 : decode cJ0_init 0 = .ok (.aload_n 0, 1) := dk_42 (dk_at dksJ0_init_0 0 rfl rfl)
theorem dJ0_init_1 : decode cJ0_init 1 = .ok (.aload_n 1, 1) := dk_43 (dk_at dksJ0_init_0 1 rfl rfl)
theorem dJ0_init_2 : decode cJ0_init 2 = .ok (.iload_n 2, 1) := dk_28 (dk_at dksJ0_init_0 2 rfl rfl)
theorem dJ0_init_3 : decode cJ0_init 3 = .ok (.iload_n 3, 1) := dk_29 (dk_at dksJ0_init_0 3 rfl rfl)
theorem dJ0_init_4 : decode cJ0_init 4 = .ok (.aload_n 1, 1) := dk_43 (dk_at dksJ0_init_0 4 rfl rfl)
theorem dJ0_init_5 : decode cJ0_init 5 = .ok (.iload_n 2, 1) := dk_28 (dk_at dksJ0_init_0 5 rfl rfl)
theorem dJ0_init_6 : decode cJ0_init 6 = .ok (.iload_n 3, 1) := dk_29 (dk_at dksJ0_init_0 6 rfl rfl)
theorem dJ0_init_7 : decode cJ0_init 7 = .ok (.invokestatic 30, 3) := dk_184 0 30 (dk_at dksJ0_init_0 7 rfl rfl)
theorem dJ0_init_10 : decode cJ0_init 10 = .ok (.invokespecial 27, 3) := dk_183 0 27 (dk_at dksJ0_init_0 10 rfl rfl)
theorem dJ0_init_13 : decode cJ0_init 13 = .ok (.return_, 1) := dk_177 (dk_at dksJ0_init_0 13 rfl rfl)
abbrev cJ0_rangeCheck : ByteArray := prog_13_method_5_code
def yJ0_rangeCheck : MethodName := ⟨RJ0, "rangeCheck", "([CII)Ljava/lang/Void;"⟩
def dkwJ0_rangeCheck_0 : List UInt8 := [27, 28, 42, 190, 184, 0, 34, 87, 1, 176]
abbrev dktJ0_rangeCheck_0 : List UInt8 := dkwJ0_rangeCheck_0 ++ []
theorem dksJ0_rangeCheck_0 : cJ0_rangeCheck.data.toList.drop 0 = dktJ0_rangeCheck_0 := by decide +kernel
theorem dJ0_rangeCheck_0 : decode cJ0_rangeCheck 0 = .ok (.iload_n 1, 1) := dk_27 (dk_at dksJ0_rangeCheck_0 0 rfl rfl)
theorem dJ0_rangeCheck_1 : decode cJ0_rangeCheck 1 = .ok (.iload_n 2, 1) := dk_28 (dk_at dksJ0_rangeCheck_0 1 rfl rfl)
theorem dJ0_rangeCheck_2 : decode cJ0_rangeCheck 2 = .ok (.aload_n 0, 1) := dk_42 (dk_at dksJ0_rangeCheck_0 2 rfl rfl)
theorem dJ0_rangeCheck_3 : decode cJ0_rangeCheck 3 = .ok (.arraylength, 1) := dk_190 (dk_at dksJ0_rangeCheck_0 3 rfl rfl)
theorem dJ0_rangeCheck_4 : decode cJ0_rangeCheck 4 = .ok (.invokestatic 34, 3) := dk_184 0 34 (dk_at dksJ0_rangeCheck_0 4 rfl rfl)
theorem dJ0_rangeCheck_7 : decode cJ0_rangeCheck 7 = .ok (.pop, 1) := dk_87 (dk_at dksJ0_rangeCheck_0 7 rfl rfl)
theorem dJ0_rangeCheck_8 : decode cJ0_rangeCheck 8 = .ok (.aconst_null, 1) := dk_1 (dk_at dksJ0_rangeCheck_0 8 rfl rfl)
theorem dJ0_rangeCheck_9 : decode cJ0_rangeCheck 9 = .ok (.areturn, 1) := dk_176 (dk_at dksJ0_rangeCheck_0 9 rfl rfl)
abbrev cJ0_checkBoundsOffCount : ByteArray := prog_13_method_157_code
def yJ0_checkBoundsOffCount : MethodName := ⟨RJ0, "checkBoundsOffCount", "(III)I"⟩
def dkwJ0_checkBoundsOffCount_0 : List UInt8 := [26, 27, 28, 178, 4, 29, 184, 4, 41, 172]
abbrev dktJ0_checkBoundsOffCount_0 : List UInt8 := dkwJ0_checkBoundsOffCount_0 ++ []
theorem dksJ0_checkBoundsOffCount_0 : cJ0_checkBoundsOffCount.data.toList.drop 0 = dktJ0_checkBoundsOffCount_0 := by decide +kernel
theorem dJ0_checkBoundsOffCount_0 : decode cJ0_checkBoundsOffCount 0 = .ok (.iload_n 0, 1) := dk_26 (dk_at dksJ0_checkBoundsOffCount_0 0 rfl rfl)
theorem dJ0_checkBoundsOffCount_1 : decode cJ0_checkBoundsOffCount 1 = .ok (.iload_n 1, 1) := dk_27 (dk_at dksJ0_checkBoundsOffCount_0 1 rfl rfl)
theorem dJ0_checkBoundsOffCount_2 : decode cJ0_checkBoundsOffCount 2 = .ok (.iload_n 2, 1) := dk_28 (dk_at dksJ0_checkBoundsOffCount_0 2 rfl rfl)
theorem dJ0_checkBoundsOffCount_3 : decode cJ0_checkBoundsOffCount 3 = .ok (.getstatic 1053, 3) := dk_178 4 29 (dk_at dksJ0_checkBoundsOffCount_0 3 rfl rfl)
theorem dJ0_checkBoundsOffCount_6 : decode cJ0_checkBoundsOffCount 6 = .ok (.invokestatic 1065, 3) := dk_184 4 41 (dk_at dksJ0_checkBoundsOffCount_0 6 rfl rfl)
theorem dJ0_checkBoundsOffCount_9 : decode cJ0_checkBoundsOffCount 9 = .ok (.ireturn, 1) := dk_172 (dk_at dksJ0_checkBoundsOffCount_0 9 rfl rfl)
abbrev cJ0_init_2 : ByteArray := prog_13_method_149_code
def yJ0_init_2 : MethodName := ⟨RJ0, "<init>", "([CIILjava/lang/Void;)V"⟩
def dkwJ0_init_2_3 : List UInt8 := [184, 0, 180, 181, 0, 9, 177]
abbrev dktJ0_init_2_3 : List UInt8 := dkwJ0_init_2_3 ++ []
def dkwJ0_init_2_2 : List UInt8 := [184, 0, 47, 181, 0, 15, 42, 25, 5, 181, 0, 9, 177, 42, 4, 181, 0, 15, 42, 43, 28, 29]
abbrev dktJ0_init_2_2 : List UInt8 := dkwJ0_init_2_2 ++ dktJ0_init_2_3
def dkwJ0_init_2_1 : List UInt8 := [181, 0, 15, 177, 178, 0, 38, 153, 0, 28, 43, 28, 29, 184, 0, 177, 58, 5, 42, 25, 5, 29]
abbrev dktJ0_init_2_1 : List UInt8 := dkwJ0_init_2_1 ++ dktJ0_init_2_2
def dkwJ0_init_2_0 : List UInt8 := [42, 183, 0, 1, 29, 154, 0, 22, 42, 18, 7, 180, 0, 9, 181, 0, 9, 42, 18, 7, 180, 0, 15]
abbrev dktJ0_init_2_0 : List UInt8 := dkwJ0_init_2_0 ++ dktJ0_init_2_1
theorem dksJ0_init_2_0 : cJ0_init_2.data.toList.drop 0 = dktJ0_init_2_0 := by decide +kernel
theorem dksJ0_init_2_1 : cJ0_init_2.data.toList.drop 23 = dktJ0_init_2_1 := dk_seg dksJ0_init_2_0 23 rfl rfl
theorem dksJ0_init_2_2 : cJ0_init_2.data.toList.drop 45 = dktJ0_init_2_2 := dk_seg dksJ0_init_2_1 22 rfl rfl
theorem dksJ0_init_2_3 : cJ0_init_2.data.toList.drop 67 = dktJ0_init_2_3 := dk_seg dksJ0_init_2_2 22 rfl rfl
theorem dJ0_init_2_0 : decode cJ0_init_2 0 = .ok (.aload_n 0, 1) := dk_42 (dk_at dksJ0_init_2_0 0 rfl rfl)
theorem dJ0_init_2_1 : decode cJ0_init_2 1 = .ok (.invokespecial 1, 3) := dk_183 0 1 (dk_at dksJ0_init_2_0 1 rfl rfl)
theorem dJ0_init_2_4 : decode cJ0_init_2 4 = .ok (.iload_n 3, 1) := dk_29 (dk_at dksJ0_init_2_0 4 rfl rfl)
theorem dJ0_init_2_5 : decode cJ0_init_2 5 = .ok (.ifCond .ne 22, 3) := dk_154 0 22 (dk_at dksJ0_init_2_0 5 rfl rfl)
theorem dJ0_init_2_8 : decode cJ0_init_2 8 = .ok (.aload_n 0, 1) := dk_42 (dk_at dksJ0_init_2_0 8 rfl rfl)
theorem dJ0_init_2_9 : decode cJ0_init_2 9 = .ok (.ldc 7, 2) := dk_18 7 (dk_at dksJ0_init_2_0 9 rfl rfl)
theorem dJ0_init_2_11 : decode cJ0_init_2 11 = .ok (.getfield 9, 3) := dk_180 0 9 (dk_at dksJ0_init_2_0 11 rfl rfl)
theorem dJ0_init_2_14 : decode cJ0_init_2 14 = .ok (.putfield 9, 3) := dk_181 0 9 (dk_at dksJ0_init_2_0 14 rfl rfl)
theorem dJ0_init_2_17 : decode cJ0_init_2 17 = .ok (.aload_n 0, 1) := dk_42 (dk_at dksJ0_init_2_0 17 rfl rfl)
theorem dJ0_init_2_18 : decode cJ0_init_2 18 = .ok (.ldc 7, 2) := dk_18 7 (dk_at dksJ0_init_2_0 18 rfl rfl)
theorem dJ0_init_2_20 : decode cJ0_init_2 20 = .ok (.getfield 15, 3) := dk_180 0 15 (dk_at dksJ0_init_2_0 20 rfl rfl)
theorem dJ0_init_2_23 : decode cJ0_init_2 23 = .ok (.putfield 15, 3) := dk_181 0 15 (dk_at dksJ0_init_2_1 0 rfl rfl)
theorem dJ0_init_2_26 : decode cJ0_init_2 26 = .ok (.return_, 1) := dk_177 (dk_at dksJ0_init_2_1 3 rfl rfl)
theorem dJ0_init_2_27 : decode cJ0_init_2 27 = .ok (.getstatic 38, 3) := dk_178 0 38 (dk_at dksJ0_init_2_1 4 rfl rfl)
theorem dJ0_init_2_30 : decode cJ0_init_2 30 = .ok (.ifCond .eq 28, 3) := dk_153 0 28 (dk_at dksJ0_init_2_1 7 rfl rfl)
theorem dJ0_init_2_33 : decode cJ0_init_2 33 = .ok (.aload_n 1, 1) := dk_43 (dk_at dksJ0_init_2_1 10 rfl rfl)
theorem dJ0_init_2_34 : decode cJ0_init_2 34 = .ok (.iload_n 2, 1) := dk_28 (dk_at dksJ0_init_2_1 11 rfl rfl)
theorem dJ0_init_2_35 : decode cJ0_init_2 35 = .ok (.iload_n 3, 1) := dk_29 (dk_at dksJ0_init_2_1 12 rfl rfl)
theorem dJ0_init_2_36 : decode cJ0_init_2 36 = .ok (.invokestatic 177, 3) := dk_184 0 177 (dk_at dksJ0_init_2_1 13 rfl rfl)
theorem dJ0_init_2_39 : decode cJ0_init_2 39 = .ok (.astore 5, 2) := dk_58 5 (dk_at dksJ0_init_2_1 16 rfl rfl)
theorem dJ0_init_2_41 : decode cJ0_init_2 41 = .ok (.aload_n 0, 1) := dk_42 (dk_at dksJ0_init_2_1 18 rfl rfl)
theorem dJ0_init_2_42 : decode cJ0_init_2 42 = .ok (.aload 5, 2) := dk_25 5 (dk_at dksJ0_init_2_1 19 rfl rfl)
theorem dJ0_init_2_44 : decode cJ0_init_2 44 = .ok (.iload_n 3, 1) := dk_29 (dk_at dksJ0_init_2_1 21 rfl rfl)
theorem dJ0_init_2_45 : decode cJ0_init_2 45 = .ok (.invokestatic 47, 3) := dk_184 0 47 (dk_at dksJ0_init_2_2 0 rfl rfl)
theorem dJ0_init_2_48 : decode cJ0_init_2 48 = .ok (.putfield 15, 3) := dk_181 0 15 (dk_at dksJ0_init_2_2 3 rfl rfl)
theorem dJ0_init_2_51 : decode cJ0_init_2 51 = .ok (.aload_n 0, 1) := dk_42 (dk_at dksJ0_init_2_2 6 rfl rfl)
theorem dJ0_init_2_52 : decode cJ0_init_2 52 = .ok (.aload 5, 2) := dk_25 5 (dk_at dksJ0_init_2_2 7 rfl rfl)
theorem dJ0_init_2_54 : decode cJ0_init_2 54 = .ok (.putfield 9, 3) := dk_181 0 9 (dk_at dksJ0_init_2_2 9 rfl rfl)
theorem dJ0_init_2_57 : decode cJ0_init_2 57 = .ok (.return_, 1) := dk_177 (dk_at dksJ0_init_2_2 12 rfl rfl)
theorem dJ0_init_2_58 : decode cJ0_init_2 58 = .ok (.aload_n 0, 1) := dk_42 (dk_at dksJ0_init_2_2 13 rfl rfl)
theorem dJ0_init_2_59 : decode cJ0_init_2 59 = .ok (.iconst 1, 1) := dk_4 (dk_at dksJ0_init_2_2 14 rfl rfl)
theorem dJ0_init_2_60 : decode cJ0_init_2 60 = .ok (.putfield 15, 3) := dk_181 0 15 (dk_at dksJ0_init_2_2 15 rfl rfl)
theorem dJ0_init_2_63 : decode cJ0_init_2 63 = .ok (.aload_n 0, 1) := dk_42 (dk_at dksJ0_init_2_2 18 rfl rfl)
theorem dJ0_init_2_64 : decode cJ0_init_2 64 = .ok (.aload_n 1, 1) := dk_43 (dk_at dksJ0_init_2_2 19 rfl rfl)
theorem dJ0_init_2_65 : decode cJ0_init_2 65 = .ok (.iload_n 2, 1) := dk_28 (dk_at dksJ0_init_2_2 20 rfl rfl)
theorem dJ0_init_2_66 : decode cJ0_init_2 66 = .ok (.iload_n 3, 1) := dk_29 (dk_at dksJ0_init_2_2 21 rfl rfl)
theorem dJ0_init_2_67 : decode cJ0_init_2 67 = .ok (.invokestatic 180, 3) := dk_184 0 180 (dk_at dksJ0_init_2_3 0 rfl rfl)
theorem dJ0_init_2_70 : decode cJ0_init_2 70 = .ok (.putfield 9, 3) := dk_181 0 9 (dk_at dksJ0_init_2_3 3 rfl rfl)
theorem dJ0_init_2_73 : decode cJ0_init_2 73 = .ok (.return_, 1) := dk_177 (dk_at dksJ0_init_2_3 6 rfl rfl)
abbrev cJ0_length : ByteArray := prog_13_method_54_code
def yJ0_length : MethodName := ⟨RJ0, "length", "()I"⟩
def dkwJ0_length_0 : List UInt8 := [42, 180, 0, 9, 190, 42, 182, 1, 79, 122, 172]
abbrev dktJ0_length_0 : List UInt8 := dkwJ0_length_0 ++ []
theorem dksJ0_length_0 : cJ0_length.data.toList.drop 0 = dktJ0_length_0 := by decide +kernel
theorem dJ0_length_0 : decode cJ0_length 0 = .ok (.aload_n 0, 1) := dk_42 (dk_at dksJ0_length_0 0 rfl rfl)
theorem dJ0_length_1 : decode cJ0_length 1 = .ok (.getfield 9, 3) := dk_180 0 9 (dk_at dksJ0_length_0 1 rfl rfl)
theorem dJ0_length_4 : decode cJ0_length 4 = .ok (.arraylength, 1) := dk_190 (dk_at dksJ0_length_0 4 rfl rfl)
theorem dJ0_length_5 : decode cJ0_length 5 = .ok (.aload_n 0, 1) := dk_42 (dk_at dksJ0_length_0 5 rfl rfl)
theorem dJ0_length_6 : decode cJ0_length 6 = .ok (.invokevirtual 335, 3) := dk_182 1 79 (dk_at dksJ0_length_0 6 rfl rfl)
theorem dJ0_length_9 : decode cJ0_length 9 = .ok (.ishr, 1) := dk_122 (dk_at dksJ0_length_0 9 rfl rfl)
theorem dJ0_length_10 : decode cJ0_length 10 = .ok (.ireturn, 1) := dk_172 (dk_at dksJ0_length_0 10 rfl rfl)
abbrev cJ0_coder : ByteArray := prog_13_method_152_code
def yJ0_coder : MethodName := ⟨RJ0, "coder", "()B"⟩
def dkwJ0_coder_0 : List UInt8 := [178, 0, 38, 153, 0, 10, 42, 180, 0, 15, 167, 0, 4, 4, 172]
abbrev dktJ0_coder_0 : List UInt8 := dkwJ0_coder_0 ++ []
theorem dksJ0_coder_0 : cJ0_coder.data.toList.drop 0 = dktJ0_coder_0 := by decide +kernel
theorem dJ0_coder_0 : decode cJ0_coder 0 = .ok (.getstatic 38, 3) := dk_178 0 38 (dk_at dksJ0_coder_0 0 rfl rfl)
theorem dJ0_coder_3 : decode cJ0_coder 3 = .ok (.ifCond .eq 10, 3) := dk_153 0 10 (dk_at dksJ0_coder_0 3 rfl rfl)
theorem dJ0_coder_6 : decode cJ0_coder 6 = .ok (.aload_n 0, 1) := dk_42 (dk_at dksJ0_coder_0 6 rfl rfl)
theorem dJ0_coder_7 : decode cJ0_coder 7 = .ok (.getfield 15, 3) := dk_180 0 15 (dk_at dksJ0_coder_0 7 rfl rfl)
theorem dJ0_coder_10 : decode cJ0_coder 10 = .ok (.goto 4, 3) := dk_167 0 4 (dk_at dksJ0_coder_0 10 rfl rfl)
theorem dJ0_coder_13 : decode cJ0_coder 13 = .ok (.iconst 1, 1) := dk_4 (dk_at dksJ0_coder_0 13 rfl rfl)
theorem dJ0_coder_14 : decode cJ0_coder 14 = .ok (.ireturn, 1) := dk_172 (dk_at dksJ0_coder_0 14 rfl rfl)
abbrev cJ0_getBytes : ByteArray := prog_13_method_147_code
def yJ0_getBytes : MethodName := ⟨RJ0, "getBytes", "([BIB)V"⟩
def dkwJ0_getBytes_1 : List UInt8 := [184, 0, 212, 167, 0, 18, 42, 180, 0, 9, 3, 43, 28, 42, 180, 0, 9, 190, 184, 0, 106, 177]
abbrev dktJ0_getBytes_1 : List UInt8 := dkwJ0_getBytes_1 ++ []
def dkwJ0_getBytes_0 : List UInt8 := [42, 182, 1, 79, 29, 160, 0, 23, 42, 180, 0, 9, 3, 43, 28, 29, 120, 42, 180, 0, 9, 190]
abbrev dktJ0_getBytes_0 : List UInt8 := dkwJ0_getBytes_0 ++ dktJ0_getBytes_1
theorem dksJ0_getBytes_0 : cJ0_getBytes.data.toList.drop 0 = dktJ0_getBytes_0 := by decide +kernel
theorem dksJ0_getBytes_1 : cJ0_getBytes.data.toList.drop 22 = dktJ0_getBytes_1 := dk_seg dksJ0_getBytes_0 22 rfl rfl
theorem dJ0_getBytes_0 : decode cJ0_getBytes 0 = .ok (.aload_n 0, 1) := dk_42 (dk_at dksJ0_getBytes_0 0 rfl rfl)
theorem dJ0_getBytes_1 : decode cJ0_getBytes 1 = .ok (.invokevirtual 335, 3) := dk_182 1 79 (dk_at dksJ0_getBytes_0 1 rfl rfl)
theorem dJ0_getBytes_4 : decode cJ0_getBytes 4 = .ok (.iload_n 3, 1) := dk_29 (dk_at dksJ0_getBytes_0 4 rfl rfl)
theorem dJ0_getBytes_5 : decode cJ0_getBytes 5 = .ok (.if_icmp .ne 23, 3) := dk_160 0 23 (dk_at dksJ0_getBytes_0 5 rfl rfl)
theorem dJ0_getBytes_8 : decode cJ0_getBytes 8 = .ok (.aload_n 0, 1) := dk_42 (dk_at dksJ0_getBytes_0 8 rfl rfl)
theorem dJ0_getBytes_9 : decode cJ0_getBytes 9 = .ok (.getfield 9, 3) := dk_180 0 9 (dk_at dksJ0_getBytes_0 9 rfl rfl)
theorem dJ0_getBytes_12 : decode cJ0_getBytes 12 = .ok (.iconst 0, 1) := dk_3 (dk_at dksJ0_getBytes_0 12 rfl rfl)
theorem dJ0_getBytes_13 : decode cJ0_getBytes 13 = .ok (.aload_n 1, 1) := dk_43 (dk_at dksJ0_getBytes_0 13 rfl rfl)
theorem dJ0_getBytes_14 : decode cJ0_getBytes 14 = .ok (.iload_n 2, 1) := dk_28 (dk_at dksJ0_getBytes_0 14 rfl rfl)
theorem dJ0_getBytes_15 : decode cJ0_getBytes 15 = .ok (.iload_n 3, 1) := dk_29 (dk_at dksJ0_getBytes_0 15 rfl rfl)
theorem dJ0_getBytes_16 : decode cJ0_getBytes 16 = .ok (.ishl, 1) := dk_120 (dk_at dksJ0_getBytes_0 16 rfl rfl)
theorem dJ0_getBytes_17 : decode cJ0_getBytes 17 = .ok (.aload_n 0, 1) := dk_42 (dk_at dksJ0_getBytes_0 17 rfl rfl)
theorem dJ0_getBytes_18 : decode cJ0_getBytes 18 = .ok (.getfield 9, 3) := dk_180 0 9 (dk_at dksJ0_getBytes_0 18 rfl rfl)
theorem dJ0_getBytes_21 : decode cJ0_getBytes 21 = .ok (.arraylength, 1) := dk_190 (dk_at dksJ0_getBytes_0 21 rfl rfl)
theorem dJ0_getBytes_22 : decode cJ0_getBytes 22 = .ok (.invokestatic 212, 3) := dk_184 0 212 (dk_at dksJ0_getBytes_1 0 rfl rfl)
theorem dJ0_getBytes_25 : decode cJ0_getBytes 25 = .ok (.goto 18, 3) := dk_167 0 18 (dk_at dksJ0_getBytes_1 3 rfl rfl)
theorem dJ0_getBytes_28 : decode cJ0_getBytes 28 = .ok (.aload_n 0, 1) := dk_42 (dk_at dksJ0_getBytes_1 6 rfl rfl)
theorem dJ0_getBytes_29 : decode cJ0_getBytes 29 = .ok (.getfield 9, 3) := dk_180 0 9 (dk_at dksJ0_getBytes_1 7 rfl rfl)
theorem dJ0_getBytes_32 : decode cJ0_getBytes 32 = .ok (.iconst 0, 1) := dk_3 (dk_at dksJ0_getBytes_1 10 rfl rfl)
theorem dJ0_getBytes_33 : decode cJ0_getBytes 33 = .ok (.aload_n 1, 1) := dk_43 (dk_at dksJ0_getBytes_1 11 rfl rfl)
theorem dJ0_getBytes_34 : decode cJ0_getBytes 34 = .ok (.iload_n 2, 1) := dk_28 (dk_at dksJ0_getBytes_1 12 rfl rfl)
theorem dJ0_getBytes_35 : decode cJ0_getBytes 35 = .ok (.aload_n 0, 1) := dk_42 (dk_at dksJ0_getBytes_1 13 rfl rfl)
theorem dJ0_getBytes_36 : decode cJ0_getBytes 36 = .ok (.getfield 9, 3) := dk_180 0 9 (dk_at dksJ0_getBytes_1 14 rfl rfl)
theorem dJ0_getBytes_39 : decode cJ0_getBytes 39 = .ok (.arraylength, 1) := dk_190 (dk_at dksJ0_getBytes_1 17 rfl rfl)
theorem dJ0_getBytes_40 : decode cJ0_getBytes 40 = .ok (.invokestatic 106, 3) := dk_184 0 106 (dk_at dksJ0_getBytes_1 18 rfl rfl)
theorem dJ0_getBytes_43 : decode cJ0_getBytes 43 = .ok (.return_, 1) := dk_177 (dk_at dksJ0_getBytes_1 21 rfl rfl)
abbrev cJ0_charAt : ByteArray := prog_13_method_56_code
def yJ0_charAt : MethodName := ⟨RJ0, "charAt", "(I)C"⟩
def dkwJ0_charAt_1 : List UInt8 := [172]
abbrev dktJ0_charAt_1 : List UInt8 := dkwJ0_charAt_1 ++ []
def dkwJ0_charAt_0 : List UInt8 := [42, 182, 1, 236, 153, 0, 12, 42, 180, 0, 9, 27, 184, 1, 239, 172, 42, 180, 0, 9, 27, 184, 1, 242]
abbrev dktJ0_charAt_0 : List UInt8 := dkwJ0_charAt_0 ++ dktJ0_charAt_1
theorem dksJ0_charAt_0 : cJ0_charAt.data.toList.drop 0 = dktJ0_charAt_0 := by decide +kernel
theorem dksJ0_charAt_1 : cJ0_charAt.data.toList.drop 24 = dktJ0_charAt_1 := dk_seg dksJ0_charAt_0 24 rfl rfl
theorem dJ0_charAt_0 : decode cJ0_charAt 0 = .ok (.aload_n 0, 1) := dk_42 (dk_at dksJ0_charAt_0 0 rfl rfl)
theorem dJ0_charAt_1 : decode cJ0_charAt 1 = .ok (.invokevirtual 492, 3) := dk_182 1 236 (dk_at dksJ0_charAt_0 1 rfl rfl)
theorem dJ0_charAt_4 : decode cJ0_charAt 4 = .ok (.ifCond .eq 12, 3) := dk_153 0 12 (dk_at dksJ0_charAt_0 4 rfl rfl)
theorem dJ0_charAt_7 : decode cJ0_charAt 7 = .ok (.aload_n 0, 1) := dk_42 (dk_at dksJ0_charAt_0 7 rfl rfl)
theorem dJ0_charAt_8 : decode cJ0_charAt 8 = .ok (.getfield 9, 3) := dk_180 0 9 (dk_at dksJ0_charAt_0 8 rfl rfl)
theorem dJ0_charAt_11 : decode cJ0_charAt 11 = .ok (.iload_n 1, 1) := dk_27 (dk_at dksJ0_charAt_0 11 rfl rfl)
theorem dJ0_charAt_12 : decode cJ0_charAt 12 = .ok (.invokestatic 495, 3) := dk_184 1 239 (dk_at dksJ0_charAt_0 12 rfl rfl)
theorem dJ0_charAt_15 : decode cJ0_charAt 15 = .ok (.ireturn, 1) := dk_172 (dk_at dksJ0_charAt_0 15 rfl rfl)
theorem dJ0_charAt_16 : decode cJ0_charAt 16 = .ok (.aload_n 0, 1) := dk_42 (dk_at dksJ0_charAt_0 16 rfl rfl)
theorem dJ0_charAt_17 : decode cJ0_charAt 17 = .ok (.getfield 9, 3) := dk_180 0 9 (dk_at dksJ0_charAt_0 17 rfl rfl)
theorem dJ0_charAt_20 : decode cJ0_charAt 20 = .ok (.iload_n 1, 1) := dk_27 (dk_at dksJ0_charAt_0 20 rfl rfl)
theorem dJ0_charAt_21 : decode cJ0_charAt 21 = .ok (.invokestatic 498, 3) := dk_184 1 242 (dk_at dksJ0_charAt_0 21 rfl rfl)
theorem dJ0_charAt_24 : decode cJ0_charAt 24 = .ok (.ireturn, 1) := dk_172 (dk_at dksJ0_charAt_1 0 rfl rfl)
abbrev cJ0_isLatin1 : ByteArray := prog_13_method_154_code
def yJ0_isLatin1 : MethodName := ⟨RJ0, "isLatin1", "()Z"⟩
def dkwJ0_isLatin1_0 : List UInt8 := [178, 0, 38, 153, 0, 14, 42, 180, 0, 15, 154, 0, 7, 4, 167, 0, 4, 3, 172]
abbrev dktJ0_isLatin1_0 : List UInt8 := dkwJ0_isLatin1_0 ++ []
theorem dksJ0_isLatin1_0 : cJ0_isLatin1.data.toList.drop 0 = dktJ0_isLatin1_0 := by decide +kernel
theorem dJ0_isLatin1_0 : decode cJ0_isLatin1 0 = .ok (.getstatic 38, 3) := dk_178 0 38 (dk_at dksJ0_isLatin1_0 0 rfl rfl)
theorem dJ0_isLatin1_3 : decode cJ0_isLatin1 3 = .ok (.ifCond .eq 14, 3) := dk_153 0 14 (dk_at dksJ0_isLatin1_0 3 rfl rfl)
theorem dJ0_isLatin1_6 : decode cJ0_isLatin1 6 = .ok (.aload_n 0, 1) := dk_42 (dk_at dksJ0_isLatin1_0 6 rfl rfl)
theorem dJ0_isLatin1_7 : decode cJ0_isLatin1 7 = .ok (.getfield 15, 3) := dk_180 0 15 (dk_at dksJ0_isLatin1_0 7 rfl rfl)
theorem dJ0_isLatin1_10 : decode cJ0_isLatin1 10 = .ok (.ifCond .ne 7, 3) := dk_154 0 7 (dk_at dksJ0_isLatin1_0 10 rfl rfl)
theorem dJ0_isLatin1_13 : decode cJ0_isLatin1 13 = .ok (.iconst 1, 1) := dk_4 (dk_at dksJ0_isLatin1_0 13 rfl rfl)
theorem dJ0_isLatin1_14 : decode cJ0_isLatin1 14 = .ok (.goto 4, 3) := dk_167 0 4 (dk_at dksJ0_isLatin1_0 14 rfl rfl)
theorem dJ0_isLatin1_17 : decode cJ0_isLatin1 17 = .ok (.iconst 0, 1) := dk_3 (dk_at dksJ0_isLatin1_0 17 rfl rfl)
theorem dJ0_isLatin1_18 : decode cJ0_isLatin1 18 = .ok (.ireturn, 1) := dk_172 (dk_at dksJ0_isLatin1_0 18 rfl rfl)
abbrev cJ0_checkIndex : ByteArray := prog_13_method_155_code
def yJ0_checkIndex : MethodName := ⟨RJ0, "checkIndex", "(II)V"⟩
def dkwJ0_checkIndex_0 : List UInt8 := [26, 27, 178, 4, 29, 184, 4, 35, 87, 177]
abbrev dktJ0_checkIndex_0 : List UInt8 := dkwJ0_checkIndex_0 ++ []
theorem dksJ0_checkIndex_0 : cJ0_checkIndex.data.toList.drop 0 = dktJ0_checkIndex_0 := by decide +kernel
theorem dJ0_checkIndex_0 : decode cJ0_checkIndex 0 = .ok (.iload_n 0, 1) := dk_26 (dk_at dksJ0_checkIndex_0 0 rfl rfl)
theorem dJ0_checkIndex_1 : decode cJ0_checkIndex 1 = .ok (.iload_n 1, 1) := dk_27 (dk_at dksJ0_checkIndex_0 1 rfl rfl)
theorem dJ0_checkIndex_2 : decode cJ0_checkIndex 2 = .ok (.getstatic 1053, 3) := dk_178 4 29 (dk_at dksJ0_checkIndex_0 2 rfl rfl)
theorem dJ0_checkIndex_5 : decode cJ0_checkIndex 5 = .ok (.invokestatic 1059, 3) := dk_184 4 35 (dk_at dksJ0_checkIndex_0 5 rfl rfl)
theorem dJ0_checkIndex_8 : decode cJ0_checkIndex 8 = .ok (.pop, 1) := dk_87 (dk_at dksJ0_checkIndex_0 8 rfl rfl)
theorem dJ0_checkIndex_9 : decode cJ0_checkIndex 9 = .ok (.return_, 1) := dk_177 (dk_at dksJ0_checkIndex_0 9 rfl rfl)
abbrev cJ0_valueOf : ByteArray := prog_13_method_134_code
def yJ0_valueOf : MethodName := ⟨RJ0, "valueOf", "([C)Ljava/lang/String;"⟩
def dkwJ0_valueOf_0 : List UInt8 := [187, 0, 10, 89, 42, 183, 3, 240, 176]
abbrev dktJ0_valueOf_0 : List UInt8 := dkwJ0_valueOf_0 ++ []
theorem dksJ0_valueOf_0 : cJ0_valueOf.data.toList.drop 0 = dktJ0_valueOf_0 := by decide +kernel
theorem dJ0_valueOf_0 : decode cJ0_valueOf 0 = .ok (.new 10, 3) := dk_187 0 10 (dk_at dksJ0_valueOf_0 0 rfl rfl)
theorem dJ0_valueOf_3 : decode cJ0_valueOf 3 = .ok (.dup, 1) := dk_89 (dk_at dksJ0_valueOf_0 3 rfl rfl)
theorem dJ0_valueOf_4 : decode cJ0_valueOf 4 = .ok (.aload_n 0, 1) := dk_42 (dk_at dksJ0_valueOf_0 4 rfl rfl)
theorem dJ0_valueOf_5 : decode cJ0_valueOf 5 = .ok (.invokespecial 1008, 3) := dk_183 3 240 (dk_at dksJ0_valueOf_0 5 rfl rfl)
theorem dJ0_valueOf_8 : decode cJ0_valueOf 8 = .ok (.areturn, 1) := dk_176 (dk_at dksJ0_valueOf_0 8 rfl rfl)
abbrev cJ0_init_3 : ByteArray := prog_13_method_3_code
def yJ0_init_3 : MethodName := ⟨RJ0, "<init>", "([C)V"⟩
def dkwJ0_init_3_0 : List UInt8 := [42, 43, 3, 43, 190, 1, 183, 0, 27, 177]
abbrev dktJ0_init_3_0 : List UInt8 := dkwJ0_init_3_0 ++ []
theorem dksJ0_init_3_0 : cJ0_init_3.data.toList.drop 0 = dktJ0_init_3_0 := by decide +kernel
theorem dJ0_init_3_0 : decode cJ0_init_3 0 = .ok (.aload_n 0, 1) := dk_42 (dk_at dksJ0_init_3_0 0 rfl rfl)
theorem dJ0_init_3_1 : decode cJ0_init_3 1 = .ok (.aload_n 1, 1) := dk_43 (dk_at dksJ0_init_3_0 1 rfl rfl)
theorem dJ0_init_3_2 : decode cJ0_init_3 2 = .ok (.iconst 0, 1) := dk_3 (dk_at dksJ0_init_3_0 2 rfl rfl)
theorem dJ0_init_3_3 : decode cJ0_init_3 3 = .ok (.aload_n 1, 1) := dk_43 (dk_at dksJ0_init_3_0 3 rfl rfl)
theorem dJ0_init_3_4 : decode cJ0_init_3 4 = .ok (.arraylength, 1) := dk_190 (dk_at dksJ0_init_3_0 4 rfl rfl)
theorem dJ0_init_3_5 : decode cJ0_init_3 5 = .ok (.aconst_null, 1) := dk_1 (dk_at dksJ0_init_3_0 5 rfl rfl)
theorem dJ0_init_3_6 : decode cJ0_init_3 6 = .ok (.invokespecial 27, 3) := dk_183 0 27 (dk_at dksJ0_init_3_0 6 rfl rfl)
theorem dJ0_init_3_9 : decode cJ0_init_3 9 = .ok (.return_, 1) := dk_177 (dk_at dksJ0_init_3_0 9 rfl rfl)
abbrev cJ0_init_4 : ByteArray := prog_13_method_53_code
def yJ0_init_4 : MethodName := ⟨RJ0, "<init>", "(Ljava/lang/StringBuilder;)V"⟩
def dkwJ0_init_4_0 : List UInt8 := [42, 43, 1, 183, 1, 233, 177]
abbrev dktJ0_init_4_0 : List UInt8 := dkwJ0_init_4_0 ++ []
theorem dksJ0_init_4_0 : cJ0_init_4.data.toList.drop 0 = dktJ0_init_4_0 := by decide +kernel
theorem dJ0_init_4_0 : decode cJ0_init_4 0 = .ok (.aload_n 0, 1) := dk_42 (dk_at dksJ0_init_4_0 0 rfl rfl)
theorem dJ0_init_4_1 : decode cJ0_init_4 1 = .ok (.aload_n 1, 1) := dk_43 (dk_at dksJ0_init_4_0 1 rfl rfl)
theorem dJ0_init_4_2 : decode cJ0_init_4 2 = .ok (.aconst_null, 1) := dk_1 (dk_at dksJ0_init_4_0 2 rfl rfl)
theorem dJ0_init_4_3 : decode cJ0_init_4 3 = .ok (.invokespecial 489, 3) := dk_183 1 233 (dk_at dksJ0_init_4_0 3 rfl rfl)
theorem dJ0_init_4_6 : decode cJ0_init_4 6 = .ok (.return_, 1) := dk_177 (dk_at dksJ0_init_4_0 6 rfl rfl)
abbrev cJ0_init_5 : ByteArray := prog_13_method_150_code
def yJ0_init_5 : MethodName := ⟨RJ0, "<init>", "(Ljava/lang/AbstractStringBuilder;Ljava/lang/Void;)V"⟩
def dkwJ0_init_5_4 : List UInt8 := [181, 0, 9, 177]
abbrev dktJ0_init_5_4 : List UInt8 := dkwJ0_init_5_4 ++ []
def dkwJ0_init_5_3 : List UInt8 := [184, 0, 47, 181, 0, 15, 177, 42, 4, 181, 0, 15, 42, 45, 3, 21, 4, 4, 120, 184, 0, 54]
abbrev dktJ0_init_5_3 : List UInt8 := dkwJ0_init_5_3 ++ dktJ0_init_5_4
def dkwJ0_init_5_2 : List UInt8 := [180, 4, 24, 153, 0, 28, 42, 45, 3, 21, 4, 184, 4, 27, 181, 0, 9, 42, 42, 180, 0, 9, 21, 4]
abbrev dktJ0_init_5_2 : List UInt8 := dkwJ0_init_5_2 ++ dktJ0_init_5_3
def dkwJ0_init_5_1 : List UInt8 := [181, 0, 15, 42, 45, 3, 21, 4, 184, 0, 54, 181, 0, 9, 167, 0, 59, 178, 0, 38, 153, 0, 35, 43]
abbrev dktJ0_init_5_1 : List UInt8 := dkwJ0_init_5_1 ++ dktJ0_init_5_2
def dkwJ0_init_5_0 : List UInt8 := [42, 183, 0, 1, 43, 182, 2, 40, 78, 43, 182, 2, 37, 54, 4, 43, 182, 4, 23, 153, 0, 22, 42, 3]
abbrev dktJ0_init_5_0 : List UInt8 := dkwJ0_init_5_0 ++ dktJ0_init_5_1
theorem dksJ0_init_5_0 : cJ0_init_5.data.toList.drop 0 = dktJ0_init_5_0 := by decide +kernel
theorem dksJ0_init_5_1 : cJ0_init_5.data.toList.drop 24 = dktJ0_init_5_1 := dk_seg dksJ0_init_5_0 24 rfl rfl
theorem dksJ0_init_5_2 : cJ0_init_5.data.toList.drop 48 = dktJ0_init_5_2 := dk_seg dksJ0_init_5_1 24 rfl rfl
theorem dksJ0_init_5_3 : cJ0_init_5.data.toList.drop 72 = dktJ0_init_5_3 := dk_seg dksJ0_init_5_2 24 rfl rfl
theorem dksJ0_init_5_4 : cJ0_init_5.data.toList.drop 94 = dktJ0_init_5_4 := dk_seg dksJ0_init_5_3 22 rfl rfl
theorem dJ0_init_5_0 : decode cJ0_init_5 0 = .ok (.aload_n 0, 1) := dk_42 (dk_at dksJ0_init_5_0 0 rfl rfl)
theorem dJ0_init_5_1 : decode cJ0_init_5 1 = .ok (.invokespecial 1, 3) := dk_183 0 1 (dk_at dksJ0_init_5_0 1 rfl rfl)
theorem dJ0_init_5_4 : decode cJ0_init_5 4 = .ok (.aload_n 1, 1) := dk_43 (dk_at dksJ0_init_5_0 4 rfl rfl)
theorem dJ0_init_5_5 : decode cJ0_init_5 5 = .ok (.invokevirtual 552, 3) := dk_182 2 40 (dk_at dksJ0_init_5_0 5 rfl rfl)
theorem dJ0_init_5_8 : decode cJ0_init_5 8 = .ok (.astore_n 3, 1) := dk_78 (dk_at dksJ0_init_5_0 8 rfl rfl)
theorem dJ0_init_5_9 : decode cJ0_init_5 9 = .ok (.aload_n 1, 1) := dk_43 (dk_at dksJ0_init_5_0 9 rfl rfl)
theorem dJ0_init_5_10 : decode cJ0_init_5 10 = .ok (.invokevirtual 549, 3) := dk_182 2 37 (dk_at dksJ0_init_5_0 10 rfl rfl)
theorem dJ0_init_5_13 : decode cJ0_init_5 13 = .ok (.istore 4, 2) := dk_54 4 (dk_at dksJ0_init_5_0 13 rfl rfl)
theorem dJ0_init_5_15 : decode cJ0_init_5 15 = .ok (.aload_n 1, 1) := dk_43 (dk_at dksJ0_init_5_0 15 rfl rfl)
theorem dJ0_init_5_16 : decode cJ0_init_5 16 = .ok (.invokevirtual 1047, 3) := dk_182 4 23 (dk_at dksJ0_init_5_0 16 rfl rfl)
theorem dJ0_init_5_19 : decode cJ0_init_5 19 = .ok (.ifCond .eq 22, 3) := dk_153 0 22 (dk_at dksJ0_init_5_0 19 rfl rfl)
theorem dJ0_init_5_22 : decode cJ0_init_5 22 = .ok (.aload_n 0, 1) := dk_42 (dk_at dksJ0_init_5_0 22 rfl rfl)
theorem dJ0_init_5_23 : decode cJ0_init_5 23 = .ok (.iconst 0, 1) := dk_3 (dk_at dksJ0_init_5_0 23 rfl rfl)
theorem dJ0_init_5_24 : decode cJ0_init_5 24 = .ok (.putfield 15, 3) := dk_181 0 15 (dk_at dksJ0_init_5_1 0 rfl rfl)
theorem dJ0_init_5_27 : decode cJ0_init_5 27 = .ok (.aload_n 0, 1) := dk_42 (dk_at dksJ0_init_5_1 3 rfl rfl)
theorem dJ0_init_5_28 : decode cJ0_init_5 28 = .ok (.aload_n 3, 1) := dk_45 (dk_at dksJ0_init_5_1 4 rfl rfl)
theorem dJ0_init_5_29 : decode cJ0_init_5 29 = .ok (.iconst 0, 1) := dk_3 (dk_at dksJ0_init_5_1 5 rfl rfl)
theorem dJ0_init_5_30 : decode cJ0_init_5 30 = .ok (.iload 4, 2) := dk_21 4 (dk_at dksJ0_init_5_1 6 rfl rfl)
theorem dJ0_init_5_32 : decode cJ0_init_5 32 = .ok (.invokestatic 54, 3) := dk_184 0 54 (dk_at dksJ0_init_5_1 8 rfl rfl)
theorem dJ0_init_5_35 : decode cJ0_init_5 35 = .ok (.putfield 9, 3) := dk_181 0 9 (dk_at dksJ0_init_5_1 11 rfl rfl)
theorem dJ0_init_5_38 : decode cJ0_init_5 38 = .ok (.goto 59, 3) := dk_167 0 59 (dk_at dksJ0_init_5_1 14 rfl rfl)
theorem dJ0_init_5_41 : decode cJ0_init_5 41 = .ok (.getstatic 38, 3) := dk_178 0 38 (dk_at dksJ0_init_5_1 17 rfl rfl)
theorem dJ0_init_5_44 : decode cJ0_init_5 44 = .ok (.ifCond .eq 35, 3) := dk_153 0 35 (dk_at dksJ0_init_5_1 20 rfl rfl)
theorem dJ0_init_5_47 : decode cJ0_init_5 47 = .ok (.aload_n 1, 1) := dk_43 (dk_at dksJ0_init_5_1 23 rfl rfl)
theorem dJ0_init_5_48 : decode cJ0_init_5 48 = .ok (.getfield 1048, 3) := dk_180 4 24 (dk_at dksJ0_init_5_2 0 rfl rfl)
theorem dJ0_init_5_51 : decode cJ0_init_5 51 = .ok (.ifCond .eq 28, 3) := dk_153 0 28 (dk_at dksJ0_init_5_2 3 rfl rfl)
theorem dJ0_init_5_54 : decode cJ0_init_5 54 = .ok (.aload_n 0, 1) := dk_42 (dk_at dksJ0_init_5_2 6 rfl rfl)
theorem dJ0_init_5_55 : decode cJ0_init_5 55 = .ok (.aload_n 3, 1) := dk_45 (dk_at dksJ0_init_5_2 7 rfl rfl)
theorem dJ0_init_5_56 : decode cJ0_init_5 56 = .ok (.iconst 0, 1) := dk_3 (dk_at dksJ0_init_5_2 8 rfl rfl)
theorem dJ0_init_5_57 : decode cJ0_init_5 57 = .ok (.iload 4, 2) := dk_21 4 (dk_at dksJ0_init_5_2 9 rfl rfl)
theorem dJ0_init_5_59 : decode cJ0_init_5 59 = .ok (.invokestatic 1051, 3) := dk_184 4 27 (dk_at dksJ0_init_5_2 11 rfl rfl)
theorem dJ0_init_5_62 : decode cJ0_init_5 62 = .ok (.putfield 9, 3) := dk_181 0 9 (dk_at dksJ0_init_5_2 14 rfl rfl)
theorem dJ0_init_5_65 : decode cJ0_init_5 65 = .ok (.aload_n 0, 1) := dk_42 (dk_at dksJ0_init_5_2 17 rfl rfl)
theorem dJ0_init_5_66 : decode cJ0_init_5 66 = .ok (.aload_n 0, 1) := dk_42 (dk_at dksJ0_init_5_2 18 rfl rfl)
theorem dJ0_init_5_67 : decode cJ0_init_5 67 = .ok (.getfield 9, 3) := dk_180 0 9 (dk_at dksJ0_init_5_2 19 rfl rfl)
theorem dJ0_init_5_70 : decode cJ0_init_5 70 = .ok (.iload 4, 2) := dk_21 4 (dk_at dksJ0_init_5_2 22 rfl rfl)
theorem dJ0_init_5_72 : decode cJ0_init_5 72 = .ok (.invokestatic 47, 3) := dk_184 0 47 (dk_at dksJ0_init_5_3 0 rfl rfl)
theorem dJ0_init_5_75 : decode cJ0_init_5 75 = .ok (.putfield 15, 3) := dk_181 0 15 (dk_at dksJ0_init_5_3 3 rfl rfl)
theorem dJ0_init_5_78 : decode cJ0_init_5 78 = .ok (.return_, 1) := dk_177 (dk_at dksJ0_init_5_3 6 rfl rfl)
theorem dJ0_init_5_79 : decode cJ0_init_5 79 = .ok (.aload_n 0, 1) := dk_42 (dk_at dksJ0_init_5_3 7 rfl rfl)
theorem dJ0_init_5_80 : decode cJ0_init_5 80 = .ok (.iconst 1, 1) := dk_4 (dk_at dksJ0_init_5_3 8 rfl rfl)
theorem dJ0_init_5_81 : decode cJ0_init_5 81 = .ok (.putfield 15, 3) := dk_181 0 15 (dk_at dksJ0_init_5_3 9 rfl rfl)
theorem dJ0_init_5_84 : decode cJ0_init_5 84 = .ok (.aload_n 0, 1) := dk_42 (dk_at dksJ0_init_5_3 12 rfl rfl)
theorem dJ0_init_5_85 : decode cJ0_init_5 85 = .ok (.aload_n 3, 1) := dk_45 (dk_at dksJ0_init_5_3 13 rfl rfl)
theorem dJ0_init_5_86 : decode cJ0_init_5 86 = .ok (.iconst 0, 1) := dk_3 (dk_at dksJ0_init_5_3 14 rfl rfl)
theorem dJ0_init_5_87 : decode cJ0_init_5 87 = .ok (.iload 4, 2) := dk_21 4 (dk_at dksJ0_init_5_3 15 rfl rfl)
theorem dJ0_init_5_89 : decode cJ0_init_5 89 = .ok (.iconst 1, 1) := dk_4 (dk_at dksJ0_init_5_3 17 rfl rfl)
theorem dJ0_init_5_90 : decode cJ0_init_5 90 = .ok (.ishl, 1) := dk_120 (dk_at dksJ0_init_5_3 18 rfl rfl)
theorem dJ0_init_5_91 : decode cJ0_init_5 91 = .ok (.invokestatic 54, 3) := dk_184 0 54 (dk_at dksJ0_init_5_3 19 rfl rfl)
theorem dJ0_init_5_94 : decode cJ0_init_5 94 = .ok (.putfield 9, 3) := dk_181 0 9 (dk_at dksJ0_init_5_4 0 rfl rfl)
theorem dJ0_init_5_97 : decode cJ0_init_5 97 = .ok (.return_, 1) := dk_177 (dk_at dksJ0_init_5_4 3 rfl rfl)
theorem q4 : (Jvm.Cond.initialized "java/lang/String") ∈ lw_all := lw_g (lw_at lw_m1 3 rfl) rfl
theorem q52 : (Jvm.Cond.instantiable "java/lang/String" (4 : Nat)) ∈ lw_all := lw_g (lw_at lw_m1 51 rfl) rfl
theorem q56 : (Jvm.Cond.instanceMethod ({ cls := "java/lang/String", name := "<init>", desc := "([CII)V" } : Jvm.MethodName)) ∈ lw_all := lw_g (lw_at lw_m1 55 rfl) rfl
theorem q57 : (Jvm.Cond.code ({ cls := "java/lang/String", name := "<init>", desc := "([CII)V" } : Jvm.MethodName) prog_13_method_4_code (4 : Nat) (Option.none : Option Jvm.ClassFile.FieldType)) ∈ lw_all := lw_g (lw_at lw_m1 56 rfl) rfl
theorem q58 : (Jvm.Cond.methodLink "java/lang/String" (30 : Nat) ({ cls := "java/lang/String", name := "rangeCheck", desc := "([CII)Ljava/lang/Void;" } : Jvm.MethodName)) ∈ lw_all := lw_g (lw_at lw_m1 57 rfl) rfl
theorem q59 : (Jvm.Cond.static ({ cls := "java/lang/String", name := "rangeCheck", desc := "([CII)Ljava/lang/Void;" } : Jvm.MethodName)) ∈ lw_all := lw_g (lw_at lw_m1 58 rfl) rfl
theorem q60 : (Jvm.Cond.code ({ cls := "java/lang/String", name := "rangeCheck", desc := "([CII)Ljava/lang/Void;" } : Jvm.MethodName) prog_13_method_5_code (3 : Nat) (Option.some (Jvm.ClassFile.FieldType.object "java/lang/Void"))) ∈ lw_all := lw_g (lw_at lw_m1 59 rfl) rfl
theorem q61 : (Jvm.Cond.methodLink "java/lang/String" (34 : Nat) ({ cls := "java/lang/String", name := "checkBoundsOffCount", desc := "(III)I" } : Jvm.MethodName)) ∈ lw_all := lw_g (lw_at lw_m1 60 rfl) rfl
theorem q62 : (Jvm.Cond.static ({ cls := "java/lang/String", name := "checkBoundsOffCount", desc := "(III)I" } : Jvm.MethodName)) ∈ lw_all := lw_g (lw_at lw_m1 61 rfl) rfl
theorem q63 : (Jvm.Cond.code ({ cls := "java/lang/String", name := "checkBoundsOffCount", desc := "(III)I" } : Jvm.MethodName) prog_13_method_157_code (3 : Nat) (Option.some Jvm.ClassFile.FieldType.int)) ∈ lw_all := lw_g (lw_at lw_m1 62 rfl) rfl
theorem q64 : (Jvm.Cond.fieldLink "java/lang/String" (1053 : Nat) "jdk/internal/util/Preconditions" "SIOOBE_FORMATTER" "Ljava/util/function/BiFunction;") ∈ lw_all := lw_g (lw_at lw_m1 63 rfl) rfl
theorem q66 : (Jvm.Cond.methodLink "java/lang/String" (1065 : Nat) ({ cls := "jdk/internal/util/Preconditions", name := "checkFromIndexSize", desc := "(IIILjava/util/function/BiFunction;)I" } : Jvm.MethodName)) ∈ lw_all := lw_g (lw_at lw_m1 65 rfl) rfl
theorem q69 : (Jvm.Cond.methodLink "java/lang/String" (27 : Nat) ({ cls := "java/lang/String", name := "<init>", desc := "([CIILjava/lang/Void;)V" } : Jvm.MethodName)) ∈ lw_all := lw_g (lw_at lw_m1 68 rfl) rfl
theorem q70 : (Jvm.Cond.instanceMethod ({ cls := "java/lang/String", name := "<init>", desc := "([CIILjava/lang/Void;)V" } : Jvm.MethodName)) ∈ lw_all := lw_g (lw_at lw_m1 69 rfl) rfl
theorem q71 : (Jvm.Cond.code ({ cls := "java/lang/String", name := "<init>", desc := "([CIILjava/lang/Void;)V" } : Jvm.MethodName) prog_13_method_149_code (6 : Nat) (Option.none : Option Jvm.ClassFile.FieldType)) ∈ lw_all := lw_g (lw_at lw_m1 70 rfl) rfl
theorem q72 : (Jvm.Cond.methodLink "java/lang/String" (1 : Nat) ({ cls := "java/lang/Object", name := "<init>", desc := "()V" } : Jvm.MethodName)) ∈ lw_all := lw_g (lw_at lw_m1 71 rfl) rfl
theorem q73 : (Jvm.Cond.stringRef "java/lang/String" (7 : Nat) "") ∈ lw_tbl := lw_at lw_m1 72 rfl
theorem q74 : (Jvm.Cond.fieldLink "java/lang/String" (38 : Nat) "java/lang/String" "COMPACT_STRINGS" "Z") ∈ lw_all := lw_g (lw_at lw_m1 73 rfl) rfl
theorem q75 : (Jvm.Cond.laysStatic "java/lang/String" "COMPACT_STRINGS" "Z") ∈ lw_tbl := lw_at lw_m1 74 rfl
theorem q76 : (Jvm.Cond.methodLink "java/lang/String" (177 : Nat) ({ cls := "java/lang/StringUTF16", name := "compress", desc := "([CII)[B" } : Jvm.MethodName)) ∈ lw_all := lw_g (lw_at lw_m1 75 rfl) rfl
theorem q114 : (Jvm.Cond.methodLink "java/lang/String" (47 : Nat) ({ cls := "java/lang/StringUTF16", name := "coderFromArrayLen", desc := "([BI)B" } : Jvm.MethodName)) ∈ lw_all := lw_g (lw_at lw_m1 113 rfl) rfl
theorem q117 : (Jvm.Cond.methodLink "java/lang/String" (180 : Nat) ({ cls := "java/lang/StringUTF16", name := "toBytes", desc := "([CII)[B" } : Jvm.MethodName)) ∈ lw_all := lw_g (lw_at lw_m1 116 rfl) rfl
theorem q118 : (Jvm.Cond.fieldLink "java/lang/String" (9 : Nat) "java/lang/String" "value" "[B") ∈ lw_all := lw_g (lw_at lw_m1 117 rfl) rfl
theorem q119 : (Jvm.Cond.fieldLink "java/lang/String" (15 : Nat) "java/lang/String" "coder" "B") ∈ lw_all := lw_g (lw_at lw_m1 118 rfl) rfl
theorem q120 : (Jvm.Cond.laysFinal "java/lang/String" "java/lang/String" "value" "[B") ∈ lw_all := lw_g (lw_at lw_m1 119 rfl) rfl
theorem q121 : (Jvm.Cond.soleField "java/lang/String" "value") ∈ lw_all := lw_g (lw_at lw_m1 120 rfl) rfl
theorem q122 : (Jvm.Cond.laysFinal "java/lang/String" "java/lang/String" "coder" "B") ∈ lw_all := lw_g (lw_at lw_m1 121 rfl) rfl
theorem q123 : (Jvm.Cond.soleField "java/lang/String" "coder") ∈ lw_all := lw_g (lw_at lw_m1 122 rfl) rfl
theorem q124 : (Jvm.Cond.lays "java/lang/String" "java/lang/String" "hash" "I") ∈ lw_all := lw_g (lw_at lw_m1 123 rfl) rfl
theorem q125 : (Jvm.Cond.soleField "java/lang/String" "hash") ∈ lw_all := lw_g (lw_at lw_m1 124 rfl) rfl
theorem q126 : (Jvm.Cond.lays "java/lang/String" "java/lang/String" "hashIsZero" "Z") ∈ lw_all := lw_g (lw_at lw_m1 125 rfl) rfl
theorem q127 : (Jvm.Cond.soleField "java/lang/String" "hashIsZero") ∈ lw_all := lw_g (lw_at lw_m1 126 rfl) rfl
theorem q128 : (Jvm.Cond.superclass "java/lang/String" "java/lang/Object") ∈ lw_all := lw_g (lw_at lw_m1 127 rfl) rfl
theorem q169 : (Jvm.Cond.instanceMethod ({ cls := "java/lang/String", name := "length", desc := "()I" } : Jvm.MethodName)) ∈ lw_all := lw_g (lw_at lw_m1 168 rfl) rfl
theorem q170 : (Jvm.Cond.selects "java/lang/String" ({ cls := "java/lang/String", name := "length", desc := "()I" } : Jvm.MethodName) ({ cls := "java/lang/String", name := "length", desc := "()I" } : Jvm.MethodName)) ∈ lw_all := lw_g (lw_at lw_m1 169 rfl) rfl
theorem q171 : (Jvm.Cond.code ({ cls := "java/lang/String", name := "length", desc := "()I" } : Jvm.MethodName) prog_13_method_54_code (1 : Nat) (Option.some Jvm.ClassFile.FieldType.int)) ∈ lw_all := lw_g (lw_at lw_m1 170 rfl) rfl
theorem q172 : (Jvm.Cond.methodLink "java/lang/String" (335 : Nat) ({ cls := "java/lang/String", name := "coder", desc := "()B" } : Jvm.MethodName)) ∈ lw_all := lw_g (lw_at lw_m1 171 rfl) rfl
theorem q173 : (Jvm.Cond.instanceMethod ({ cls := "java/lang/String", name := "coder", desc := "()B" } : Jvm.MethodName)) ∈ lw_all := lw_g (lw_at lw_m1 172 rfl) rfl
theorem q174 : (Jvm.Cond.selects "java/lang/String" ({ cls := "java/lang/String", name := "coder", desc := "()B" } : Jvm.MethodName) ({ cls := "java/lang/String", name := "coder", desc := "()B" } : Jvm.MethodName)) ∈ lw_all := lw_g (lw_at lw_m1 173 rfl) rfl
theorem q175 : (Jvm.Cond.code ({ cls := "java/lang/String", name := "coder", desc := "()B" } : Jvm.MethodName) prog_13_method_152_code (1 : Nat) (Option.some Jvm.ClassFile.FieldType.byte)) ∈ lw_all := lw_g (lw_at lw_m1 174 rfl) rfl
theorem q263 : (Jvm.Cond.fieldLink "java/lang/String" (1048 : Nat) "java/lang/AbstractStringBuilder" "maybeLatin1" "Z") ∈ lw_all := lw_g (lw_at lw_m2 22 rfl) rfl
theorem q332 : (Jvm.Cond.static ({ cls := "java/lang/String", name := "checkBoundsBeginEnd", desc := "(III)V" } : Jvm.MethodName)) ∈ lw_all := lw_g (lw_at lw_m2 91 rfl) rfl
theorem q333 : (Jvm.Cond.code ({ cls := "java/lang/String", name := "checkBoundsBeginEnd", desc := "(III)V" } : Jvm.MethodName) prog_13_method_158_code (3 : Nat) (Option.none : Option Jvm.ClassFile.FieldType)) ∈ lw_all := lw_g (lw_at lw_m2 92 rfl) rfl
theorem q334 : (Jvm.Cond.methodLink "java/lang/String" (1062 : Nat) ({ cls := "jdk/internal/util/Preconditions", name := "checkFromToIndex", desc := "(IIILjava/util/function/BiFunction;)I" } : Jvm.MethodName)) ∈ lw_all := lw_g (lw_at lw_m2 93 rfl) rfl
theorem q358 : (Jvm.Cond.instanceMethod ({ cls := "java/lang/String", name := "getBytes", desc := "([BIB)V" } : Jvm.MethodName)) ∈ lw_all := lw_g (lw_at lw_m2 117 rfl) rfl
theorem q359 : (Jvm.Cond.selects "java/lang/String" ({ cls := "java/lang/String", name := "getBytes", desc := "([BIB)V" } : Jvm.MethodName) ({ cls := "java/lang/String", name := "getBytes", desc := "([BIB)V" } : Jvm.MethodName)) ∈ lw_all := lw_g (lw_at lw_m2 118 rfl) rfl
theorem q360 : (Jvm.Cond.code ({ cls := "java/lang/String", name := "getBytes", desc := "([BIB)V" } : Jvm.MethodName) prog_13_method_147_code (4 : Nat) (Option.none : Option Jvm.ClassFile.FieldType)) ∈ lw_all := lw_g (lw_at lw_m2 119 rfl) rfl
theorem q361 : (Jvm.Cond.methodLink "java/lang/String" (212 : Nat) ({ cls := "java/lang/System", name := "arraycopy", desc := "(Ljava/lang/Object;ILjava/lang/Object;II)V" } : Jvm.MethodName)) ∈ lw_all := lw_g (lw_at lw_m2 120 rfl) rfl
theorem q362 : (Jvm.Cond.methodLink "java/lang/String" (106 : Nat) ({ cls := "java/lang/StringLatin1", name := "inflate", desc := "([BI[BII)V" } : Jvm.MethodName)) ∈ lw_all := lw_g (lw_at lw_m2 121 rfl) rfl
theorem q379 : (Jvm.Cond.castable "java/lang/String" "java/lang/CharSequence") ∈ lw_tbl := lw_at lw_m2 138 rfl
theorem q380 : (Jvm.Cond.selects "java/lang/String" ({ cls := "java/lang/CharSequence", name := "length", desc := "()I" } : Jvm.MethodName) ({ cls := "java/lang/String", name := "length", desc := "()I" } : Jvm.MethodName)) ∈ lw_all := lw_g (lw_at lw_m2 139 rfl) rfl
theorem q381 : (Jvm.Cond.unhidden "java/lang/String" "length" "()I") ∈ lw_tbl := lw_at lw_m2 140 rfl
theorem q382 : (Jvm.Cond.publicMethod ({ cls := "java/lang/String", name := "length", desc := "()I" } : Jvm.MethodName)) ∈ lw_tbl := lw_at lw_m2 141 rfl
theorem q396 : (Jvm.Cond.selects "java/lang/String" ({ cls := "java/lang/CharSequence", name := "charAt", desc := "(I)C" } : Jvm.MethodName) ({ cls := "java/lang/String", name := "charAt", desc := "(I)C" } : Jvm.MethodName)) ∈ lw_all := lw_g (lw_at lw_m2 155 rfl) rfl
theorem q397 : (Jvm.Cond.unhidden "java/lang/String" "charAt" "(I)C") ∈ lw_tbl := lw_at lw_m2 156 rfl
theorem q398 : (Jvm.Cond.instanceMethod ({ cls := "java/lang/String", name := "charAt", desc := "(I)C" } : Jvm.MethodName)) ∈ lw_all := lw_g (lw_at lw_m2 157 rfl) rfl
theorem q399 : (Jvm.Cond.publicMethod ({ cls := "java/lang/String", name := "charAt", desc := "(I)C" } : Jvm.MethodName)) ∈ lw_tbl := lw_at lw_m2 158 rfl
theorem q400 : (Jvm.Cond.code ({ cls := "java/lang/String", name := "charAt", desc := "(I)C" } : Jvm.MethodName) prog_13_method_56_code (2 : Nat) (Option.some Jvm.ClassFile.FieldType.char)) ∈ lw_all := lw_g (lw_at lw_m2 159 rfl) rfl
theorem q401 : (Jvm.Cond.methodLink "java/lang/String" (492 : Nat) ({ cls := "java/lang/String", name := "isLatin1", desc := "()Z" } : Jvm.MethodName)) ∈ lw_all := lw_g (lw_at lw_m2 160 rfl) rfl
theorem q402 : (Jvm.Cond.instanceMethod ({ cls := "java/lang/String", name := "isLatin1", desc := "()Z" } : Jvm.MethodName)) ∈ lw_all := lw_g (lw_at lw_m2 161 rfl) rfl
theorem q403 : (Jvm.Cond.selects "java/lang/String" ({ cls := "java/lang/String", name := "isLatin1", desc := "()Z" } : Jvm.MethodName) ({ cls := "java/lang/String", name := "isLatin1", desc := "()Z" } : Jvm.MethodName)) ∈ lw_all := lw_g (lw_at lw_m2 162 rfl) rfl
theorem q404 : (Jvm.Cond.code ({ cls := "java/lang/String", name := "isLatin1", desc := "()Z" } : Jvm.MethodName) prog_13_method_154_code (1 : Nat) (Option.some Jvm.ClassFile.FieldType.boolean)) ∈ lw_all := lw_g (lw_at lw_m2 163 rfl) rfl
theorem q405 : (Jvm.Cond.methodLink "java/lang/String" (495 : Nat) ({ cls := "java/lang/StringLatin1", name := "charAt", desc := "([BI)C" } : Jvm.MethodName)) ∈ lw_all := lw_g (lw_at lw_m2 164 rfl) rfl
theorem q409 : (Jvm.Cond.static ({ cls := "java/lang/String", name := "checkIndex", desc := "(II)V" } : Jvm.MethodName)) ∈ lw_all := lw_g (lw_at lw_m2 168 rfl) rfl
theorem q410 : (Jvm.Cond.code ({ cls := "java/lang/String", name := "checkIndex", desc := "(II)V" } : Jvm.MethodName) prog_13_method_155_code (2 : Nat) (Option.none : Option Jvm.ClassFile.FieldType)) ∈ lw_all := lw_g (lw_at lw_m2 169 rfl) rfl
theorem q411 : (Jvm.Cond.methodLink "java/lang/String" (1059 : Nat) ({ cls := "jdk/internal/util/Preconditions", name := "checkIndex", desc := "(IILjava/util/function/BiFunction;)I" } : Jvm.MethodName)) ∈ lw_all := lw_g (lw_at lw_m2 170 rfl) rfl
theorem q414 : (Jvm.Cond.methodLink "java/lang/String" (498 : Nat) ({ cls := "java/lang/StringUTF16", name := "charAt", desc := "([BI)C" } : Jvm.MethodName)) ∈ lw_all := lw_g (lw_at lw_m2 173 rfl) rfl
theorem q437 : (Jvm.Cond.static ({ cls := "java/lang/String", name := "valueOf", desc := "([C)Ljava/lang/String;" } : Jvm.MethodName)) ∈ lw_all := lw_g (lw_at lw_m2 196 rfl) rfl
theorem q438 : (Jvm.Cond.code ({ cls := "java/lang/String", name := "valueOf", desc := "([C)Ljava/lang/String;" } : Jvm.MethodName) prog_13_method_134_code (1 : Nat) (Option.some (Jvm.ClassFile.FieldType.object "java/lang/String"))) ∈ lw_all := lw_g (lw_at lw_m2 197 rfl) rfl
theorem q439 : (Jvm.Cond.classLink "java/lang/String" (10 : Nat) "java/lang/String") ∈ lw_all := lw_g (lw_at lw_m2 198 rfl) rfl
theorem q440 : (Jvm.Cond.methodLink "java/lang/String" (1008 : Nat) ({ cls := "java/lang/String", name := "<init>", desc := "([C)V" } : Jvm.MethodName)) ∈ lw_all := lw_g (lw_at lw_m2 199 rfl) rfl
theorem q441 : (Jvm.Cond.instanceMethod ({ cls := "java/lang/String", name := "<init>", desc := "([C)V" } : Jvm.MethodName)) ∈ lw_all := lw_g (lw_at lw_m2 200 rfl) rfl
theorem q442 : (Jvm.Cond.code ({ cls := "java/lang/String", name := "<init>", desc := "([C)V" } : Jvm.MethodName) prog_13_method_3_code (2 : Nat) (Option.none : Option Jvm.ClassFile.FieldType)) ∈ lw_all := lw_g (lw_at lw_m2 201 rfl) rfl
theorem q498 : (Jvm.Cond.instanceMethod ({ cls := "java/lang/String", name := "<init>", desc := "(Ljava/lang/StringBuilder;)V" } : Jvm.MethodName)) ∈ lw_all := lw_g (lw_at lw_m3 17 rfl) rfl
theorem q499 : (Jvm.Cond.code ({ cls := "java/lang/String", name := "<init>", desc := "(Ljava/lang/StringBuilder;)V" } : Jvm.MethodName) prog_13_method_53_code (2 : Nat) (Option.none : Option Jvm.ClassFile.FieldType)) ∈ lw_all := lw_g (lw_at lw_m3 18 rfl) rfl
theorem q500 : (Jvm.Cond.methodLink "java/lang/String" (489 : Nat) ({ cls := "java/lang/String", name := "<init>", desc := "(Ljava/lang/AbstractStringBuilder;Ljava/lang/Void;)V" } : Jvm.MethodName)) ∈ lw_all := lw_g (lw_at lw_m3 19 rfl) rfl
theorem q501 : (Jvm.Cond.instanceMethod ({ cls := "java/lang/String", name := "<init>", desc := "(Ljava/lang/AbstractStringBuilder;Ljava/lang/Void;)V" } : Jvm.MethodName)) ∈ lw_all := lw_g (lw_at lw_m3 20 rfl) rfl
theorem q502 : (Jvm.Cond.code ({ cls := "java/lang/String", name := "<init>", desc := "(Ljava/lang/AbstractStringBuilder;Ljava/lang/Void;)V" } : Jvm.MethodName) prog_13_method_150_code (5 : Nat) (Option.none : Option Jvm.ClassFile.FieldType)) ∈ lw_all := lw_g (lw_at lw_m3 21 rfl) rfl
theorem q503 : (Jvm.Cond.methodLink "java/lang/String" (552 : Nat) ({ cls := "java/lang/AbstractStringBuilder", name := "getValue", desc := "()[B" } : Jvm.MethodName)) ∈ lw_all := lw_g (lw_at lw_m3 22 rfl) rfl
theorem q508 : (Jvm.Cond.methodLink "java/lang/String" (549 : Nat) ({ cls := "java/lang/AbstractStringBuilder", name := "length", desc := "()I" } : Jvm.MethodName)) ∈ lw_all := lw_g (lw_at lw_m3 27 rfl) rfl
theorem q509 : (Jvm.Cond.methodLink "java/lang/String" (1047 : Nat) ({ cls := "java/lang/AbstractStringBuilder", name := "isLatin1", desc := "()Z" } : Jvm.MethodName)) ∈ lw_all := lw_g (lw_at lw_m3 28 rfl) rfl
theorem q510 : (Jvm.Cond.methodLink "java/lang/String" (54 : Nat) ({ cls := "java/util/Arrays", name := "copyOfRange", desc := "([BII)[B" } : Jvm.MethodName)) ∈ lw_all := lw_g (lw_at lw_m3 29 rfl) rfl
theorem q519 : (Jvm.Cond.methodLink "java/lang/String" (1051 : Nat) ({ cls := "java/lang/StringUTF16", name := "compress", desc := "([BII)[B" } : Jvm.MethodName)) ∈ lw_all := lw_g (lw_at lw_m3 38 rfl) rfl
theorem q591 : (Jvm.Cond.selects "java/lang/String" ({ cls := "java/lang/String", name := "charAt", desc := "(I)C" } : Jvm.MethodName) ({ cls := "java/lang/String", name := "charAt", desc := "(I)C" } : Jvm.MethodName)) ∈ lw_all := lw_g (lw_at lw_m3 110 rfl) rfl
theorem in_J0 : ∀ w ∈ wsJ00, w ∈ lw_all := lw_in wsJ00 [120, 122, 124, 126] (by decide +kernel) (by decide +kernel)
def RJ1 : String := "jdk/internal/util/Preconditions"
abbrev cJ1_checkFromIndexSize : ByteArray := prog_21_method_13_code
def yJ1_checkFromIndexSize : MethodName := ⟨RJ1, "checkFromIndexSize", "(IIILjava/util/function/BiFunction;)I"⟩
def dkwJ1_checkFromIndexSize_1 : List UInt8 := [172]
abbrev dktJ1_checkFromIndexSize_1 : List UInt8 := dkwJ1_checkFromIndexSize_1 ++ []
def dkwJ1_checkFromIndexSize_0 : List UInt8 := [28, 26, 128, 27, 128, 155, 0, 10, 27, 28, 26, 100, 164, 0, 11, 45, 26, 27, 28, 184, 0, 103, 191, 26]
abbrev dktJ1_checkFromIndexSize_0 : List UInt8 := dkwJ1_checkFromIndexSize_0 ++ dktJ1_checkFromIndexSize_1
theorem dksJ1_checkFromIndexSize_0 : cJ1_checkFromIndexSize.data.toList.drop 0 = dktJ1_checkFromIndexSize_0 := by decide +kernel
theorem dksJ1_checkFromIndexSize_1 : cJ1_checkFromIndexSize.data.toList.drop 24 = dktJ1_checkFromIndexSize_1 := dk_seg dksJ1_checkFromIndexSize_0 24 rfl rfl
theorem dJ1_checkFromIndexSize_0 : decode cJ1_checkFromIndexSize 0 = .ok (.iload_n 2, 1) := dk_28 (dk_at dksJ1_checkFromIndexSize_0 0 rfl rfl)
theorem dJ1_checkFromIndexSize_1 : decode cJ1_checkFromIndexSize 1 = .ok (.iload_n 0, 1) := dk_26 (dk_at dksJ1_checkFromIndexSize_0 1 rfl rfl)
theorem dJ1_checkFromIndexSize_2 : decode cJ1_checkFromIndexSize 2 = .ok (.ior, 1) := dk_128 (dk_at dksJ1_checkFromIndexSize_0 2 rfl rfl)
theorem dJ1_checkFromIndexSize_3 : decode cJ1_checkFromIndexSize 3 = .ok (.iload_n 1, 1) := dk_27 (dk_at dksJ1_checkFromIndexSize_0 3 rfl rfl)
theorem dJ1_checkFromIndexSize_4 : decode cJ1_checkFromIndexSize 4 = .ok (.ior, 1) := dk_128 (dk_at dksJ1_checkFromIndexSize_0 4 rfl rfl)
theorem dJ1_checkFromIndexSize_5 : decode cJ1_checkFromIndexSize 5 = .ok (.ifCond .lt 10, 3) := dk_155 0 10 (dk_at dksJ1_checkFromIndexSize_0 5 rfl rfl)
theorem dJ1_checkFromIndexSize_8 : decode cJ1_checkFromIndexSize 8 = .ok (.iload_n 1, 1) := dk_27 (dk_at dksJ1_checkFromIndexSize_0 8 rfl rfl)
theorem dJ1_checkFromIndexSize_9 : decode cJ1_checkFromIndexSize 9 = .ok (.iload_n 2, 1) := dk_28 (dk_at dksJ1_checkFromIndexSize_0 9 rfl rfl)
theorem dJ1_checkFromIndexSize_10 : decode cJ1_checkFromIndexSize 10 = .ok (.iload_n 0, 1) := dk_26 (dk_at dksJ1_checkFromIndexSize_0 10 rfl rfl)
theorem dJ1_checkFromIndexSize_11 : decode cJ1_checkFromIndexSize 11 = .ok (.isub, 1) := dk_100 (dk_at dksJ1_checkFromIndexSize_0 11 rfl rfl)
theorem dJ1_checkFromIndexSize_12 : decode cJ1_checkFromIndexSize 12 = .ok (.if_icmp .le 11, 3) := dk_164 0 11 (dk_at dksJ1_checkFromIndexSize_0 12 rfl rfl)
theorem dJ1_checkFromIndexSize_15 : decode cJ1_checkFromIndexSize 15 = .ok (.aload_n 3, 1) := dk_45 (dk_at dksJ1_checkFromIndexSize_0 15 rfl rfl)
theorem dJ1_checkFromIndexSize_16 : decode cJ1_checkFromIndexSize 16 = .ok (.iload_n 0, 1) := dk_26 (dk_at dksJ1_checkFromIndexSize_0 16 rfl rfl)
theorem dJ1_checkFromIndexSize_17 : decode cJ1_checkFromIndexSize 17 = .ok (.iload_n 1, 1) := dk_27 (dk_at dksJ1_checkFromIndexSize_0 17 rfl rfl)
theorem dJ1_checkFromIndexSize_18 : decode cJ1_checkFromIndexSize 18 = .ok (.iload_n 2, 1) := dk_28 (dk_at dksJ1_checkFromIndexSize_0 18 rfl rfl)
theorem dJ1_checkFromIndexSize_19 : decode cJ1_checkFromIndexSize 19 = .ok (.invokestatic 103, 3) := dk_184 0 103 (dk_at dksJ1_checkFromIndexSize_0 19 rfl rfl)
theorem dJ1_checkFromIndexSize_22 : decode cJ1_checkFromIndexSize 22 = .ok (.athrow, 1) := dk_191 (dk_at dksJ1_checkFromIndexSize_0 22 rfl rfl)
theorem dJ1_checkFromIndexSize_23 : decode cJ1_checkFromIndexSize 23 = .ok (.iload_n 0, 1) := dk_26 (dk_at dksJ1_checkFromIndexSize_0 23 rfl rfl)
theorem dJ1_checkFromIndexSize_24 : decode cJ1_checkFromIndexSize 24 = .ok (.ireturn, 1) := dk_172 (dk_at dksJ1_checkFromIndexSize_1 0 rfl rfl)
abbrev cJ1_checkIndex : ByteArray := prog_21_method_11_code
def yJ1_checkIndex : MethodName := ⟨RJ1, "checkIndex", "(IILjava/util/function/BiFunction;)I"⟩
def dkwJ1_checkIndex_0 : List UInt8 := [26, 155, 0, 8, 26, 27, 161, 0, 10, 44, 26, 27, 184, 0, 95, 191, 26, 172]
abbrev dktJ1_checkIndex_0 : List UInt8 := dkwJ1_checkIndex_0 ++ []
theorem dksJ1_checkIndex_0 : cJ1_checkIndex.data.toList.drop 0 = dktJ1_checkIndex_0 := by decide +kernel
theorem dJ1_checkIndex_0 : decode cJ1_checkIndex 0 = .ok (.iload_n 0, 1) := dk_26 (dk_at dksJ1_checkIndex_0 0 rfl rfl)
theorem dJ1_checkIndex_1 : decode cJ1_checkIndex 1 = .ok (.ifCond .lt 8, 3) := dk_155 0 8 (dk_at dksJ1_checkIndex_0 1 rfl rfl)
theorem dJ1_checkIndex_4 : decode cJ1_checkIndex 4 = .ok (.iload_n 0, 1) := dk_26 (dk_at dksJ1_checkIndex_0 4 rfl rfl)
theorem dJ1_checkIndex_5 : decode cJ1_checkIndex 5 = .ok (.iload_n 1, 1) := dk_27 (dk_at dksJ1_checkIndex_0 5 rfl rfl)
theorem dJ1_checkIndex_6 : decode cJ1_checkIndex 6 = .ok (.if_icmp .lt 10, 3) := dk_161 0 10 (dk_at dksJ1_checkIndex_0 6 rfl rfl)
theorem dJ1_checkIndex_9 : decode cJ1_checkIndex 9 = .ok (.aload_n 2, 1) := dk_44 (dk_at dksJ1_checkIndex_0 9 rfl rfl)
theorem dJ1_checkIndex_10 : decode cJ1_checkIndex 10 = .ok (.iload_n 0, 1) := dk_26 (dk_at dksJ1_checkIndex_0 10 rfl rfl)
theorem dJ1_checkIndex_11 : decode cJ1_checkIndex 11 = .ok (.iload_n 1, 1) := dk_27 (dk_at dksJ1_checkIndex_0 11 rfl rfl)
theorem dJ1_checkIndex_12 : decode cJ1_checkIndex 12 = .ok (.invokestatic 95, 3) := dk_184 0 95 (dk_at dksJ1_checkIndex_0 12 rfl rfl)
theorem dJ1_checkIndex_15 : decode cJ1_checkIndex 15 = .ok (.athrow, 1) := dk_191 (dk_at dksJ1_checkIndex_0 15 rfl rfl)
theorem dJ1_checkIndex_16 : decode cJ1_checkIndex 16 = .ok (.iload_n 0, 1) := dk_26 (dk_at dksJ1_checkIndex_0 16 rfl rfl)
theorem dJ1_checkIndex_17 : decode cJ1_checkIndex 17 = .ok (.ireturn, 1) := dk_172 (dk_at dksJ1_checkIndex_0 17 rfl rfl)
theorem q5 : (Jvm.Cond.initialized "jdk/internal/util/Preconditions") ∈ lw_all := lw_g (lw_at lw_m1 4 rfl) rfl
theorem q65 : (Jvm.Cond.laysStatic "jdk/internal/util/Preconditions" "SIOOBE_FORMATTER" "Ljava/util/function/BiFunction;") ∈ lw_tbl := lw_at lw_m1 64 rfl
theorem q67 : (Jvm.Cond.static ({ cls := "jdk/internal/util/Preconditions", name := "checkFromIndexSize", desc := "(IIILjava/util/function/BiFunction;)I" } : Jvm.MethodName)) ∈ lw_all := lw_g (lw_at lw_m1 66 rfl) rfl
theorem q68 : (Jvm.Cond.code ({ cls := "jdk/internal/util/Preconditions", name := "checkFromIndexSize", desc := "(IIILjava/util/function/BiFunction;)I" } : Jvm.MethodName) prog_21_method_13_code (4 : Nat) (Option.some Jvm.ClassFile.FieldType.int)) ∈ lw_all := lw_g (lw_at lw_m1 67 rfl) rfl
theorem q335 : (Jvm.Cond.static ({ cls := "jdk/internal/util/Preconditions", name := "checkFromToIndex", desc := "(IIILjava/util/function/BiFunction;)I" } : Jvm.MethodName)) ∈ lw_all := lw_g (lw_at lw_m2 94 rfl) rfl
theorem q336 : (Jvm.Cond.code ({ cls := "jdk/internal/util/Preconditions", name := "checkFromToIndex", desc := "(IIILjava/util/function/BiFunction;)I" } : Jvm.MethodName) prog_21_method_12_code (4 : Nat) (Option.some Jvm.ClassFile.FieldType.int)) ∈ lw_all := lw_g (lw_at lw_m2 95 rfl) rfl
theorem q412 : (Jvm.Cond.static ({ cls := "jdk/internal/util/Preconditions", name := "checkIndex", desc := "(IILjava/util/function/BiFunction;)I" } : Jvm.MethodName)) ∈ lw_all := lw_g (lw_at lw_m2 171 rfl) rfl
theorem q413 : (Jvm.Cond.code ({ cls := "jdk/internal/util/Preconditions", name := "checkIndex", desc := "(IILjava/util/function/BiFunction;)I" } : Jvm.MethodName) prog_21_method_11_code (3 : Nat) (Option.some Jvm.ClassFile.FieldType.int)) ∈ lw_all := lw_g (lw_at lw_m2 172 rfl) rfl
def RJ10 : String := "java/lang/Math"
theorem q16 : (Jvm.Cond.initialized "java/lang/Math") ∈ lw_all := lw_g (lw_at lw_m1 15 rfl) rfl
theorem q297 : (Jvm.Cond.static ({ cls := "java/lang/Math", name := "max", desc := "(II)I" } : Jvm.MethodName)) ∈ lw_all := lw_g (lw_at lw_m2 56 rfl) rfl
theorem q298 : (Jvm.Cond.code ({ cls := "java/lang/Math", name := "max", desc := "(II)I" } : Jvm.MethodName) prog_11_method_65_code (2 : Nat) (Option.some Jvm.ClassFile.FieldType.int)) ∈ lw_all := lw_g (lw_at lw_m2 57 rfl) rfl
theorem q315 : (Jvm.Cond.static ({ cls := "java/lang/Math", name := "min", desc := "(II)I" } : Jvm.MethodName)) ∈ lw_all := lw_g (lw_at lw_m2 74 rfl) rfl
theorem q316 : (Jvm.Cond.code ({ cls := "java/lang/Math", name := "min", desc := "(II)I" } : Jvm.MethodName) prog_11_method_69_code (2 : Nat) (Option.some Jvm.ClassFile.FieldType.int)) ∈ lw_all := lw_g (lw_at lw_m2 75 rfl) rfl
def RJ11 : String := "java/util/Arrays"
abbrev cJ11_copyOfRange : ByteArray := prog_19_method_132_code
def yJ11_copyOfRange : MethodName := ⟨RJ11, "copyOfRange", "([BII)[B"⟩
def dkwJ11_copyOfRange_1 : List UInt8 := [176]
abbrev dktJ11_copyOfRange_1 : List UInt8 := dkwJ11_copyOfRange_1 ++ []
def dkwJ11_copyOfRange_0 : List UInt8 := [27, 154, 0, 9, 28, 42, 190, 159, 0, 10, 42, 27, 28, 184, 1, 83, 176, 42, 182, 1, 54, 192, 1, 55]
abbrev dktJ11_copyOfRange_0 : List UInt8 := dkwJ11_copyOfRange_0 ++ dktJ11_copyOfRange_1
theorem dksJ11_copyOfRange_0 : cJ11_copyOfRange.data.toList.drop 0 = dktJ11_copyOfRange_0 := by decide +kernel
theorem dksJ11_copyOfRange_1 : cJ11_copyOfRange.data.toList.drop 24 = dktJ11_copyOfRange_1 := dk_seg dksJ11_copyOfRange_0 24 rfl rfl
theorem dJ11_copyOfRange_0 : decode cJ11_copyOfRange 0 = .ok (.iload_n 1, 1) := dk_27 (dk_at dksJ11_copyOfRange_0 0 rfl rfl)
theorem dJ11_copyOfRange_1 : decode cJ11_copyOfRange 1 = .ok (.ifCond .ne 9, 3) := dk_154 0 9 (dk_at dksJ11_copyOfRange_0 1 rfl rfl)
theorem dJ11_copyOfRange_4 : decode cJ11_copyOfRange 4 = .ok (.iload_n 2, 1) := dk_28 (dk_at dksJ11_copyOfRange_0 4 rfl rfl)
theorem dJ11_copyOfRange_5 : decode cJ11_copyOfRange 5 = .ok (.aload_n 0, 1) := dk_42 (dk_at dksJ11_copyOfRange_0 5 rfl rfl)
theorem dJ11_copyOfRange_6 : decode cJ11_copyOfRange 6 = .ok (.arraylength, 1) := dk_190 (dk_at dksJ11_copyOfRange_0 6 rfl rfl)
theorem dJ11_copyOfRange_7 : decode cJ11_copyOfRange 7 = .ok (.if_icmp .eq 10, 3) := dk_159 0 10 (dk_at dksJ11_copyOfRange_0 7 rfl rfl)
theorem dJ11_copyOfRange_10 : decode cJ11_copyOfRange 10 = .ok (.aload_n 0, 1) := dk_42 (dk_at dksJ11_copyOfRange_0 10 rfl rfl)
theorem dJ11_copyOfRange_11 : decode cJ11_copyOfRange 11 = .ok (.iload_n 1, 1) := dk_27 (dk_at dksJ11_copyOfRange_0 11 rfl rfl)
theorem dJ11_copyOfRange_12 : decode cJ11_copyOfRange 12 = .ok (.iload_n 2, 1) := dk_28 (dk_at dksJ11_copyOfRange_0 12 rfl rfl)
theorem dJ11_copyOfRange_13 : decode cJ11_copyOfRange 13 = .ok (.invokestatic 339, 3) := dk_184 1 83 (dk_at dksJ11_copyOfRange_0 13 rfl rfl)
theorem dJ11_copyOfRange_16 : decode cJ11_copyOfRange 16 = .ok (.areturn, 1) := dk_176 (dk_at dksJ11_copyOfRange_0 16 rfl rfl)
theorem dJ11_copyOfRange_17 : decode cJ11_copyOfRange 17 = .ok (.aload_n 0, 1) := dk_42 (dk_at dksJ11_copyOfRange_0 17 rfl rfl)
theorem dJ11_copyOfRange_18 : decode cJ11_copyOfRange 18 = .ok (.invokevirtual 310, 3) := dk_182 1 54 (dk_at dksJ11_copyOfRange_0 18 rfl rfl)
theorem dJ11_copyOfRange_21 : decode cJ11_copyOfRange 21 = .ok (.checkcast 311, 3) := dk_192 1 55 (dk_at dksJ11_copyOfRange_0 21 rfl rfl)
theorem dJ11_copyOfRange_24 : decode cJ11_copyOfRange 24 = .ok (.areturn, 1) := dk_176 (dk_at dksJ11_copyOfRange_1 0 rfl rfl)
theorem q17 : (Jvm.Cond.initialized "java/util/Arrays") ∈ lw_all := lw_g (lw_at lw_m1 16 rfl) rfl
theorem q305 : (Jvm.Cond.static ({ cls := "java/util/Arrays", name := "copyOf", desc := "([BI)[B" } : Jvm.MethodName)) ∈ lw_all := lw_g (lw_at lw_m2 64 rfl) rfl
theorem q306 : (Jvm.Cond.code ({ cls := "java/util/Arrays", name := "copyOf", desc := "([BI)[B" } : Jvm.MethodName) prog_19_method_121_code (3 : Nat) (Option.some (Jvm.ClassFile.FieldType.array Jvm.ClassFile.FieldType.byte))) ∈ lw_all := lw_g (lw_at lw_m2 65 rfl) rfl
theorem q307 : (Jvm.Cond.methodLink "java/util/Arrays" (310 : Nat) ({ cls := "[B", name := "clone", desc := "()Ljava/lang/Object;" } : Jvm.MethodName)) ∈ lw_all := lw_g (lw_at lw_m2 66 rfl) rfl
theorem q313 : (Jvm.Cond.classLink "java/util/Arrays" (311 : Nat) "[B") ∈ lw_all := lw_g (lw_at lw_m2 72 rfl) rfl
theorem q314 : (Jvm.Cond.methodLink "java/util/Arrays" (304 : Nat) ({ cls := "java/lang/Math", name := "min", desc := "(II)I" } : Jvm.MethodName)) ∈ lw_all := lw_g (lw_at lw_m2 73 rfl) rfl
theorem q317 : (Jvm.Cond.methodLink "java/util/Arrays" (150 : Nat) ({ cls := "java/lang/System", name := "arraycopy", desc := "(Ljava/lang/Object;ILjava/lang/Object;II)V" } : Jvm.MethodName)) ∈ lw_all := lw_g (lw_at lw_m2 76 rfl) rfl
theorem q461 : (Jvm.Cond.static ({ cls := "java/util/Arrays", name := "fill", desc := "([BIIB)V" } : Jvm.MethodName)) ∈ lw_all := lw_g (lw_at lw_m2 220 rfl) rfl
theorem q462 : (Jvm.Cond.code ({ cls := "java/util/Arrays", name := "fill", desc := "([BIIB)V" } : Jvm.MethodName) prog_19_method_110_code (5 : Nat) (Option.none : Option Jvm.ClassFile.FieldType)) ∈ lw_all := lw_g (lw_at lw_m2 221 rfl) rfl
theorem q463 : (Jvm.Cond.methodLink "java/util/Arrays" (13 : Nat) ({ cls := "java/util/Arrays", name := "rangeCheck", desc := "(III)V" } : Jvm.MethodName)) ∈ lw_all := lw_g (lw_at lw_m2 222 rfl) rfl
theorem q464 : (Jvm.Cond.static ({ cls := "java/util/Arrays", name := "rangeCheck", desc := "(III)V" } : Jvm.MethodName)) ∈ lw_all := lw_g (lw_at lw_m2 223 rfl) rfl
theorem q465 : (Jvm.Cond.code ({ cls := "java/util/Arrays", name := "rangeCheck", desc := "(III)V" } : Jvm.MethodName) prog_19_method_30_code (3 : Nat) (Option.none : Option Jvm.ClassFile.FieldType)) ∈ lw_all := lw_g (lw_at lw_m2 224 rfl) rfl
theorem q511 : (Jvm.Cond.static ({ cls := "java/util/Arrays", name := "copyOfRange", desc := "([BII)[B" } : Jvm.MethodName)) ∈ lw_all := lw_g (lw_at lw_m3 30 rfl) rfl
theorem q512 : (Jvm.Cond.code ({ cls := "java/util/Arrays", name := "copyOfRange", desc := "([BII)[B" } : Jvm.MethodName) prog_19_method_132_code (3 : Nat) (Option.some (Jvm.ClassFile.FieldType.array Jvm.ClassFile.FieldType.byte))) ∈ lw_all := lw_g (lw_at lw_m3 31 rfl) rfl
theorem q513 : (Jvm.Cond.methodLink "java/util/Arrays" (339 : Nat) ({ cls := "java/util/Arrays", name := "copyOfRangeByte", desc := "([BII)[B" } : Jvm.MethodName)) ∈ lw_all := lw_g (lw_at lw_m3 32 rfl) rfl
theorem q514 : (Jvm.Cond.static ({ cls := "java/util/Arrays", name := "copyOfRangeByte", desc := "([BII)[B" } : Jvm.MethodName)) ∈ lw_all := lw_g (lw_at lw_m3 33 rfl) rfl
theorem q515 : (Jvm.Cond.code ({ cls := "java/util/Arrays", name := "copyOfRangeByte", desc := "([BII)[B" } : Jvm.MethodName) prog_19_method_133_code (5 : Nat) (Option.some (Jvm.ClassFile.FieldType.array Jvm.ClassFile.FieldType.byte))) ∈ lw_all := lw_g (lw_at lw_m3 34 rfl) rfl
theorem q516 : (Jvm.Cond.methodLink "java/util/Arrays" (343 : Nat) ({ cls := "java/util/Arrays", name := "checkLength", desc := "(II)V" } : Jvm.MethodName)) ∈ lw_all := lw_g (lw_at lw_m3 35 rfl) rfl
theorem q517 : (Jvm.Cond.static ({ cls := "java/util/Arrays", name := "checkLength", desc := "(II)V" } : Jvm.MethodName)) ∈ lw_all := lw_g (lw_at lw_m3 36 rfl) rfl
theorem q518 : (Jvm.Cond.code ({ cls := "java/util/Arrays", name := "checkLength", desc := "(II)V" } : Jvm.MethodName) prog_19_method_131_code (2 : Nat) (Option.none : Option Jvm.ClassFile.FieldType)) ∈ lw_all := lw_g (lw_at lw_m3 37 rfl) rfl
def RJ12 : String := "java/lang/StringLatin1"
abbrev cJ12_charAt : ByteArray := prog_15_method_2_code
def yJ12_charAt : MethodName := ⟨RJ12, "charAt", "([BI)C"⟩
def dkwJ12_charAt_0 : List UInt8 := [27, 42, 190, 184, 0, 9, 42, 27, 51, 17, 0, 255, 126, 146, 172]
abbrev dktJ12_charAt_0 : List UInt8 := dkwJ12_charAt_0 ++ []
theorem dksJ12_charAt_0 : cJ12_charAt.data.toList.drop 0 = dktJ12_charAt_0 := by decide +kernel
theorem dJ12_charAt_0 : decode cJ12_charAt 0 = .ok (.iload_n 1, 1) := dk_27 (dk_at dksJ12_charAt_0 0 rfl rfl)
theorem dJ12_charAt_1 : decode cJ12_charAt 1 = .ok (.aload_n 0, 1) := dk_42 (dk_at dksJ12_charAt_0 1 rfl rfl)
theorem dJ12_charAt_2 : decode cJ12_charAt 2 = .ok (.arraylength, 1) := dk_190 (dk_at dksJ12_charAt_0 2 rfl rfl)
theorem dJ12_charAt_3 : decode cJ12_charAt 3 = .ok (.invokestatic 9, 3) := dk_184 0 9 (dk_at dksJ12_charAt_0 3 rfl rfl)
theorem dJ12_charAt_6 : decode cJ12_charAt 6 = .ok (.aload_n 0, 1) := dk_42 (dk_at dksJ12_charAt_0 6 rfl rfl)
theorem dJ12_charAt_7 : decode cJ12_charAt 7 = .ok (.iload_n 1, 1) := dk_27 (dk_at dksJ12_charAt_0 7 rfl rfl)
theorem dJ12_charAt_8 : decode cJ12_charAt 8 = .ok (.baload, 1) := dk_51 (dk_at dksJ12_charAt_0 8 rfl rfl)
theorem dJ12_charAt_9 : decode cJ12_charAt 9 = .ok (.sipush 255, 3) := dk_17 0 255 (dk_at dksJ12_charAt_0 9 rfl rfl)
theorem dJ12_charAt_12 : decode cJ12_charAt 12 = .ok (.iand, 1) := dk_126 (dk_at dksJ12_charAt_0 12 rfl rfl)
theorem dJ12_charAt_13 : decode cJ12_charAt 13 = .ok (.i2c, 1) := dk_146 (dk_at dksJ12_charAt_0 13 rfl rfl)
theorem dJ12_charAt_14 : decode cJ12_charAt 14 = .ok (.ireturn, 1) := dk_172 (dk_at dksJ12_charAt_0 14 rfl rfl)
theorem q19 : (Jvm.Cond.initialized "java/lang/StringLatin1") ∈ lw_all := lw_g (lw_at lw_m1 18 rfl) rfl
theorem q352 : (Jvm.Cond.static ({ cls := "java/lang/StringLatin1", name := "inflate", desc := "([BI[BII)V" } : Jvm.MethodName)) ∈ lw_all := lw_g (lw_at lw_m2 111 rfl) rfl
theorem q353 : (Jvm.Cond.code ({ cls := "java/lang/StringLatin1", name := "inflate", desc := "([BI[BII)V" } : Jvm.MethodName) prog_15_method_50_code (5 : Nat) (Option.none : Option Jvm.ClassFile.FieldType)) ∈ lw_all := lw_g (lw_at lw_m2 112 rfl) rfl
theorem q354 : (Jvm.Cond.methodLink "java/lang/StringLatin1" (240 : Nat) ({ cls := "java/lang/StringUTF16", name := "inflate", desc := "([BI[BII)V" } : Jvm.MethodName)) ∈ lw_all := lw_g (lw_at lw_m2 113 rfl) rfl
theorem q406 : (Jvm.Cond.static ({ cls := "java/lang/StringLatin1", name := "charAt", desc := "([BI)C" } : Jvm.MethodName)) ∈ lw_all := lw_g (lw_at lw_m2 165 rfl) rfl
theorem q407 : (Jvm.Cond.code ({ cls := "java/lang/StringLatin1", name := "charAt", desc := "([BI)C" } : Jvm.MethodName) prog_15_method_2_code (2 : Nat) (Option.some Jvm.ClassFile.FieldType.char)) ∈ lw_all := lw_g (lw_at lw_m2 166 rfl) rfl
theorem q408 : (Jvm.Cond.methodLink "java/lang/StringLatin1" (9 : Nat) ({ cls := "java/lang/String", name := "checkIndex", desc := "(II)V" } : Jvm.MethodName)) ∈ lw_all := lw_g (lw_at lw_m2 167 rfl) rfl
theorem q458 : (Jvm.Cond.static ({ cls := "java/lang/StringLatin1", name := "fillNull", desc := "([BII)V" } : Jvm.MethodName)) ∈ lw_all := lw_g (lw_at lw_m2 217 rfl) rfl
theorem q459 : (Jvm.Cond.code ({ cls := "java/lang/StringLatin1", name := "fillNull", desc := "([BII)V" } : Jvm.MethodName) prog_15_method_48_code (3 : Nat) (Option.none : Option Jvm.ClassFile.FieldType)) ∈ lw_all := lw_g (lw_at lw_m2 218 rfl) rfl
theorem q460 : (Jvm.Cond.methodLink "java/lang/StringLatin1" (236 : Nat) ({ cls := "java/util/Arrays", name := "fill", desc := "([BIIB)V" } : Jvm.MethodName)) ∈ lw_all := lw_g (lw_at lw_m2 219 rfl) rfl
theorem q487 : (Jvm.Cond.static ({ cls := "java/lang/StringLatin1", name := "canEncode", desc := "(C)Z" } : Jvm.MethodName)) ∈ lw_all := lw_g (lw_at lw_m3 6 rfl) rfl
theorem q488 : (Jvm.Cond.code ({ cls := "java/lang/StringLatin1", name := "canEncode", desc := "(C)Z" } : Jvm.MethodName) prog_15_method_3_code (1 : Nat) (Option.some Jvm.ClassFile.FieldType.boolean)) ∈ lw_all := lw_g (lw_at lw_m3 7 rfl) rfl
def RJ13 : String := "java/lang/Object"
theorem q26 : (Jvm.Cond.instanceMethod ({ cls := "java/lang/Object", name := "<init>", desc := "()V" } : Jvm.MethodName)) ∈ lw_all := lw_g (lw_at lw_m1 25 rfl) rfl
theorem q27 : (Jvm.Cond.code ({ cls := "java/lang/Object", name := "<init>", desc := "()V" } : Jvm.MethodName) object_method_1_code (1 : Nat) (Option.none : Option Jvm.ClassFile.FieldType)) ∈ lw_all := lw_g (lw_at lw_m1 26 rfl) rfl
theorem q309 : (Jvm.Cond.native ({ cls := "java/lang/Object", name := "clone", desc := "()Ljava/lang/Object;" } : Jvm.MethodName)) ∈ lw_all := lw_g (lw_at lw_m2 68 rfl) rfl
theorem q310 : (Jvm.Cond.instanceMethod ({ cls := "java/lang/Object", name := "clone", desc := "()Ljava/lang/Object;" } : Jvm.MethodName)) ∈ lw_all := lw_g (lw_at lw_m2 69 rfl) rfl
theorem q595 : (Jvm.Cond.initialized "java/lang/Object") ∈ lw_all := lw_g (lw_at lw_m3 114 rfl) rfl
def RJ2 : String := "java/lang/StringUTF16"
abbrev cJ2_compress : ByteArray := prog_16_method_16_code
def yJ2_compress : MethodName := ⟨RJ2, "compress", "([CII)[B"⟩
def dkwJ2_compress_2 : List UInt8 := [184, 0, 123, 28, 159, 0, 6, 25, 5, 176, 45, 176]
abbrev dktJ2_compress_2 : List UInt8 := dkwJ2_compress_2 ++ []
def dkwJ2_compress_1 : List UInt8 := [184, 0, 119, 58, 5, 25, 5, 21, 4, 184, 0, 71, 17, 0, 255, 163, 0, 16, 25, 5, 3, 45, 3, 28]
abbrev dktJ2_compress_1 : List UInt8 := dkwJ2_compress_1 ++ dktJ2_compress_2
def dkwJ2_compress_0 : List UInt8 := [28, 188, 8, 78, 42, 27, 45, 3, 28, 184, 0, 115, 54, 4, 21, 4, 28, 159, 0, 40, 42, 27, 28]
abbrev dktJ2_compress_0 : List UInt8 := dkwJ2_compress_0 ++ dktJ2_compress_1
theorem dksJ2_compress_0 : cJ2_compress.data.toList.drop 0 = dktJ2_compress_0 := by decide +kernel
theorem dksJ2_compress_1 : cJ2_compress.data.toList.drop 23 = dktJ2_compress_1 := dk_seg dksJ2_compress_0 23 rfl rfl
theorem dksJ2_compress_2 : cJ2_compress.data.toList.drop 47 = dktJ2_compress_2 := dk_seg dksJ2_compress_1 24 rfl rfl
theorem dJ2_compress_0 : decode cJ2_compress 0 = .ok (.iload_n 2, 1) := dk_28 (dk_at dksJ2_compress_0 0 rfl rfl)
theorem dJ2_compress_1 : decode cJ2_compress 1 = .ok (.newarray .byte, 2) := dk_188_8 (dk_at dksJ2_compress_0 1 rfl rfl)
theorem dJ2_compress_3 : decode cJ2_compress 3 = .ok (.astore_n 3, 1) := dk_78 (dk_at dksJ2_compress_0 3 rfl rfl)
theorem dJ2_compress_4 : decode cJ2_compress 4 = .ok (.aload_n 0, 1) := dk_42 (dk_at dksJ2_compress_0 4 rfl rfl)
theorem dJ2_compress_5 : decode cJ2_compress 5 = .ok (.iload_n 1, 1) := dk_27 (dk_at dksJ2_compress_0 5 rfl rfl)
theorem dJ2_compress_6 : decode cJ2_compress 6 = .ok (.aload_n 3, 1) := dk_45 (dk_at dksJ2_compress_0 6 rfl rfl)
theorem dJ2_compress_7 : decode cJ2_compress 7 = .ok (.iconst 0, 1) := dk_3 (dk_at dksJ2_compress_0 7 rfl rfl)
theorem dJ2_compress_8 : decode cJ2_compress 8 = .ok (.iload_n 2, 1) := dk_28 (dk_at dksJ2_compress_0 8 rfl rfl)
theorem dJ2_compress_9 : decode cJ2_compress 9 = .ok (.invokestatic 115, 3) := dk_184 0 115 (dk_at dksJ2_compress_0 9 rfl rfl)
theorem dJ2_compress_12 : decode cJ2_compress 12 = .ok (.istore 4, 2) := dk_54 4 (dk_at dksJ2_compress_0 12 rfl rfl)
theorem dJ2_compress_14 : decode cJ2_compress 14 = .ok (.iload 4, 2) := dk_21 4 (dk_at dksJ2_compress_0 14 rfl rfl)
theorem dJ2_compress_16 : decode cJ2_compress 16 = .ok (.iload_n 2, 1) := dk_28 (dk_at dksJ2_compress_0 16 rfl rfl)
theorem dJ2_compress_17 : decode cJ2_compress 17 = .ok (.if_icmp .eq 40, 3) := dk_159 0 40 (dk_at dksJ2_compress_0 17 rfl rfl)
theorem dJ2_compress_20 : decode cJ2_compress 20 = .ok (.aload_n 0, 1) := dk_42 (dk_at dksJ2_compress_0 20 rfl rfl)
theorem dJ2_compress_21 : decode cJ2_compress 21 = .ok (.iload_n 1, 1) := dk_27 (dk_at dksJ2_compress_0 21 rfl rfl)
theorem dJ2_compress_22 : decode cJ2_compress 22 = .ok (.iload_n 2, 1) := dk_28 (dk_at dksJ2_compress_0 22 rfl rfl)
theorem dJ2_compress_23 : decode cJ2_compress 23 = .ok (.invokestatic 119, 3) := dk_184 0 119 (dk_at dksJ2_compress_1 0 rfl rfl)
theorem dJ2_compress_26 : decode cJ2_compress 26 = .ok (.astore 5, 2) := dk_58 5 (dk_at dksJ2_compress_1 3 rfl rfl)
theorem dJ2_compress_28 : decode cJ2_compress 28 = .ok (.aload 5, 2) := dk_25 5 (dk_at dksJ2_compress_1 5 rfl rfl)
theorem dJ2_compress_30 : decode cJ2_compress 30 = .ok (.iload 4, 2) := dk_21 4 (dk_at dksJ2_compress_1 7 rfl rfl)
theorem dJ2_compress_32 : decode cJ2_compress 32 = .ok (.invokestatic 71, 3) := dk_184 0 71 (dk_at dksJ2_compress_1 9 rfl rfl)
theorem dJ2_compress_35 : decode cJ2_compress 35 = .ok (.sipush 255, 3) := dk_17 0 255 (dk_at dksJ2_compress_1 12 rfl rfl)
theorem dJ2_compress_38 : decode cJ2_compress 38 = .ok (.if_icmp .gt 16, 3) := dk_163 0 16 (dk_at dksJ2_compress_1 15 rfl rfl)
theorem dJ2_compress_41 : decode cJ2_compress 41 = .ok (.aload 5, 2) := dk_25 5 (dk_at dksJ2_compress_1 18 rfl rfl)
theorem dJ2_compress_43 : decode cJ2_compress 43 = .ok (.iconst 0, 1) := dk_3 (dk_at dksJ2_compress_1 20 rfl rfl)
theorem dJ2_compress_44 : decode cJ2_compress 44 = .ok (.aload_n 3, 1) := dk_45 (dk_at dksJ2_compress_1 21 rfl rfl)
theorem dJ2_compress_45 : decode cJ2_compress 45 = .ok (.iconst 0, 1) := dk_3 (dk_at dksJ2_compress_1 22 rfl rfl)
theorem dJ2_compress_46 : decode cJ2_compress 46 = .ok (.iload_n 2, 1) := dk_28 (dk_at dksJ2_compress_1 23 rfl rfl)
theorem dJ2_compress_47 : decode cJ2_compress 47 = .ok (.invokestatic 123, 3) := dk_184 0 123 (dk_at dksJ2_compress_2 0 rfl rfl)
theorem dJ2_compress_50 : decode cJ2_compress 50 = .ok (.iload_n 2, 1) := dk_28 (dk_at dksJ2_compress_2 3 rfl rfl)
theorem dJ2_compress_51 : decode cJ2_compress 51 = .ok (.if_icmp .eq 6, 3) := dk_159 0 6 (dk_at dksJ2_compress_2 4 rfl rfl)
theorem dJ2_compress_54 : decode cJ2_compress 54 = .ok (.aload 5, 2) := dk_25 5 (dk_at dksJ2_compress_2 7 rfl rfl)
theorem dJ2_compress_56 : decode cJ2_compress 56 = .ok (.areturn, 1) := dk_176 (dk_at dksJ2_compress_2 9 rfl rfl)
theorem dJ2_compress_57 : decode cJ2_compress 57 = .ok (.aload_n 3, 1) := dk_45 (dk_at dksJ2_compress_2 10 rfl rfl)
theorem dJ2_compress_58 : decode cJ2_compress 58 = .ok (.areturn, 1) := dk_176 (dk_at dksJ2_compress_2 11 rfl rfl)
abbrev cJ2_compress_2 : ByteArray := prog_16_method_21_code
def yJ2_compress_2 : MethodName := ⟨RJ2, "compress", "([CI[BII)I"⟩
def dkwJ2_compress_2_1 : List UInt8 := [21, 5, 172, 44, 29, 21, 6, 145, 84, 132, 1, 1, 132, 3, 1, 132, 5, 1, 167, 255, 218, 21, 4, 172]
abbrev dktJ2_compress_2_1 : List UInt8 := dkwJ2_compress_2_1 ++ []
def dkwJ2_compress_2_0 : List UInt8 := [3, 54, 5, 21, 5, 21, 4, 162, 0, 37, 42, 27, 52, 54, 6, 21, 6, 17, 0, 255, 164, 0, 6]
abbrev dktJ2_compress_2_0 : List UInt8 := dkwJ2_compress_2_0 ++ dktJ2_compress_2_1
theorem dksJ2_compress_2_0 : cJ2_compress_2.data.toList.drop 0 = dktJ2_compress_2_0 := by decide +kernel
theorem dksJ2_compress_2_1 : cJ2_compress_2.data.toList.drop 23 = dktJ2_compress_2_1 := dk_seg dksJ2_compress_2_0 23 rfl rfl
theorem dJ2_compress_2_0 : decode cJ2_compress_2 0 = .ok (.iconst 0, 1) := dk_3 (dk_at dksJ2_compress_2_0 0 rfl rfl)
theorem dJ2_compress_2_1 : decode cJ2_compress_2 1 = .ok (.istore 5, 2) := dk_54 5 (dk_at dksJ2_compress_2_0 1 rfl rfl)
theorem dJ2_compress_2_3 : decode cJ2_compress_2 3 = .ok (.iload 5, 2) := dk_21 5 (dk_at dksJ2_compress_2_0 3 rfl rfl)
theorem dJ2_compress_2_5 : decode cJ2_compress_2 5 = .ok (.iload 4, 2) := dk_21 4 (dk_at dksJ2_compress_2_0 5 rfl rfl)
theorem dJ2_compress_2_7 : decode cJ2_compress_2 7 = .ok (.if_icmp .ge 37, 3) := dk_162 0 37 (dk_at dksJ2_compress_2_0 7 rfl rfl)
theorem dJ2_compress_2_10 : decode cJ2_compress_2 10 = .ok (.aload_n 0, 1) := dk_42 (dk_at dksJ2_compress_2_0 10 rfl rfl)
theorem dJ2_compress_2_11 : decode cJ2_compress_2 11 = .ok (.iload_n 1, 1) := dk_27 (dk_at dksJ2_compress_2_0 11 rfl rfl)
theorem dJ2_compress_2_12 : decode cJ2_compress_2 12 = .ok (.caload, 1) := dk_52 (dk_at dksJ2_compress_2_0 12 rfl rfl)
theorem dJ2_compress_2_13 : decode cJ2_compress_2 13 = .ok (.istore 6, 2) := dk_54 6 (dk_at dksJ2_compress_2_0 13 rfl rfl)
theorem dJ2_compress_2_15 : decode cJ2_compress_2 15 = .ok (.iload 6, 2) := dk_21 6 (dk_at dksJ2_compress_2_0 15 rfl rfl)
theorem dJ2_compress_2_17 : decode cJ2_compress_2 17 = .ok (.sipush 255, 3) := dk_17 0 255 (dk_at dksJ2_compress_2_0 17 rfl rfl)
theorem dJ2_compress_2_20 : decode cJ2_compress_2 20 = .ok (.if_icmp .le 6, 3) := dk_164 0 6 (dk_at dksJ2_compress_2_0 20 rfl rfl)
theorem dJ2_compress_2_23 : decode cJ2_compress_2 23 = .ok (.iload 5, 2) := dk_21 5 (dk_at dksJ2_compress_2_1 0 rfl rfl)
theorem dJ2_compress_2_25 : decode cJ2_compress_2 25 = .ok (.ireturn, 1) := dk_172 (dk_at dksJ2_compress_2_1 2 rfl rfl)
theorem dJ2_compress_2_26 : decode cJ2_compress_2 26 = .ok (.aload_n 2, 1) := dk_44 (dk_at dksJ2_compress_2_1 3 rfl rfl)
theorem dJ2_compress_2_27 : decode cJ2_compress_2 27 = .ok (.iload_n 3, 1) := dk_29 (dk_at dksJ2_compress_2_1 4 rfl rfl)
theorem dJ2_compress_2_28 : decode cJ2_compress_2 28 = .ok (.iload 6, 2) := dk_21 6 (dk_at dksJ2_compress_2_1 5 rfl rfl)
theorem dJ2_compress_2_30 : decode cJ2_compress_2 30 = .ok (.i2b, 1) := dk_145 (dk_at dksJ2_compress_2_1 7 rfl rfl)
theorem dJ2_compress_2_31 : decode cJ2_compress_2 31 = .ok (.bastore, 1) := dk_84 (dk_at dksJ2_compress_2_1 8 rfl rfl)
theorem dJ2_compress_2_32 : decode cJ2_compress_2 32 = .ok (.iinc 1 1, 3) := dk_132 1 1 (dk_at dksJ2_compress_2_1 9 rfl rfl)
theorem dJ2_compress_2_35 : decode cJ2_compress_2 35 = .ok (.iinc 3 1, 3) := dk_132 3 1 (dk_at dksJ2_compress_2_1 12 rfl rfl)
theorem dJ2_compress_2_38 : decode cJ2_compress_2 38 = .ok (.iinc 5 1, 3) := dk_132 5 1 (dk_at dksJ2_compress_2_1 15 rfl rfl)
theorem dJ2_compress_2_41 : decode cJ2_compress_2 41 = .ok (.goto (-38), 3) := dk_167 255 218 (dk_at dksJ2_compress_2_1 18 rfl rfl)
theorem dJ2_compress_2_44 : decode cJ2_compress_2 44 = .ok (.iload 4, 2) := dk_21 4 (dk_at dksJ2_compress_2_1 21 rfl rfl)
theorem dJ2_compress_2_46 : decode cJ2_compress_2 46 = .ok (.ireturn, 1) := dk_172 (dk_at dksJ2_compress_2_1 23 rfl rfl)
abbrev cJ2_coderFromArrayLen : ByteArray := prog_16_method_15_code
def yJ2_coderFromArrayLen : MethodName := ⟨RJ2, "coderFromArrayLen", "([BI)B"⟩
def dkwJ2_coderFromArrayLen_0 : List UInt8 := [27, 42, 190, 100, 16, 31, 124, 145, 172]
abbrev dktJ2_coderFromArrayLen_0 : List UInt8 := dkwJ2_coderFromArrayLen_0 ++ []
theorem dksJ2_coderFromArrayLen_0 : cJ2_coderFromArrayLen.data.toList.drop 0 = dktJ2_coderFromArrayLen_0 := by decide +kernel
theorem dJ2_coderFromArrayLen_0 : decode cJ2_coderFromArrayLen 0 = .ok (.iload_n 1, 1) := dk_27 (dk_at dksJ2_coderFromArrayLen_0 0 rfl rfl)
theorem dJ2_coderFromArrayLen_1 : decode cJ2_coderFromArrayLen 1 = .ok (.aload_n 0, 1) := dk_42 (dk_at dksJ2_coderFromArrayLen_0 1 rfl rfl)
theorem dJ2_coderFromArrayLen_2 : decode cJ2_coderFromArrayLen 2 = .ok (.arraylength, 1) := dk_190 (dk_at dksJ2_coderFromArrayLen_0 2 rfl rfl)
theorem dJ2_coderFromArrayLen_3 : decode cJ2_coderFromArrayLen 3 = .ok (.isub, 1) := dk_100 (dk_at dksJ2_coderFromArrayLen_0 3 rfl rfl)
theorem dJ2_coderFromArrayLen_4 : decode cJ2_coderFromArrayLen 4 = .ok (.bipush 31, 2) := dk_16 31 (dk_at dksJ2_coderFromArrayLen_0 4 rfl rfl)
theorem dJ2_coderFromArrayLen_6 : decode cJ2_coderFromArrayLen 6 = .ok (.iushr, 1) := dk_124 (dk_at dksJ2_coderFromArrayLen_0 6 rfl rfl)
theorem dJ2_coderFromArrayLen_7 : decode cJ2_coderFromArrayLen 7 = .ok (.i2b, 1) := dk_145 (dk_at dksJ2_coderFromArrayLen_0 7 rfl rfl)
theorem dJ2_coderFromArrayLen_8 : decode cJ2_coderFromArrayLen 8 = .ok (.ireturn, 1) := dk_172 (dk_at dksJ2_coderFromArrayLen_0 8 rfl rfl)
theorem q6 : (Jvm.Cond.initialized "java/lang/StringUTF16") ∈ lw_all := lw_g (lw_at lw_m1 5 rfl) rfl
theorem q77 : (Jvm.Cond.static ({ cls := "java/lang/StringUTF16", name := "compress", desc := "([CII)[B" } : Jvm.MethodName)) ∈ lw_all := lw_g (lw_at lw_m1 76 rfl) rfl
theorem q78 : (Jvm.Cond.code ({ cls := "java/lang/StringUTF16", name := "compress", desc := "([CII)[B" } : Jvm.MethodName) prog_16_method_16_code (6 : Nat) (Option.some (Jvm.ClassFile.FieldType.array Jvm.ClassFile.FieldType.byte))) ∈ lw_all := lw_g (lw_at lw_m1 77 rfl) rfl
theorem q79 : (Jvm.Cond.methodLink "java/lang/StringUTF16" (115 : Nat) ({ cls := "java/lang/StringUTF16", name := "compress", desc := "([CI[BII)I" } : Jvm.MethodName)) ∈ lw_all := lw_g (lw_at lw_m1 78 rfl) rfl
theorem q80 : (Jvm.Cond.static ({ cls := "java/lang/StringUTF16", name := "compress", desc := "([CI[BII)I" } : Jvm.MethodName)) ∈ lw_all := lw_g (lw_at lw_m1 79 rfl) rfl
theorem q81 : (Jvm.Cond.code ({ cls := "java/lang/StringUTF16", name := "compress", desc := "([CI[BII)I" } : Jvm.MethodName) prog_16_method_21_code (7 : Nat) (Option.some Jvm.ClassFile.FieldType.int)) ∈ lw_all := lw_g (lw_at lw_m1 80 rfl) rfl
theorem q82 : (Jvm.Cond.methodLink "java/lang/StringUTF16" (119 : Nat) ({ cls := "java/lang/StringUTF16", name := "toBytes", desc := "([CII)[B" } : Jvm.MethodName)) ∈ lw_all := lw_g (lw_at lw_m1 81 rfl) rfl
theorem q83 : (Jvm.Cond.static ({ cls := "java/lang/StringUTF16", name := "toBytes", desc := "([CII)[B" } : Jvm.MethodName)) ∈ lw_all := lw_g (lw_at lw_m1 82 rfl) rfl
theorem q84 : (Jvm.Cond.code ({ cls := "java/lang/StringUTF16", name := "toBytes", desc := "([CII)[B" } : Jvm.MethodName) prog_16_method_14_code (5 : Nat) (Option.some (Jvm.ClassFile.FieldType.array Jvm.ClassFile.FieldType.byte))) ∈ lw_all := lw_g (lw_at lw_m1 83 rfl) rfl
theorem q85 : (Jvm.Cond.methodLink "java/lang/StringUTF16" (107 : Nat) ({ cls := "java/lang/StringUTF16", name := "newBytesFor", desc := "(I)[B" } : Jvm.MethodName)) ∈ lw_all := lw_g (lw_at lw_m1 84 rfl) rfl
theorem q86 : (Jvm.Cond.static ({ cls := "java/lang/StringUTF16", name := "newBytesFor", desc := "(I)[B" } : Jvm.MethodName)) ∈ lw_all := lw_g (lw_at lw_m1 85 rfl) rfl
theorem q87 : (Jvm.Cond.code ({ cls := "java/lang/StringUTF16", name := "newBytesFor", desc := "(I)[B" } : Jvm.MethodName) prog_16_method_2_code (1 : Nat) (Option.some (Jvm.ClassFile.FieldType.array Jvm.ClassFile.FieldType.byte))) ∈ lw_all := lw_g (lw_at lw_m1 86 rfl) rfl
theorem q88 : (Jvm.Cond.methodLink "java/lang/StringUTF16" (11 : Nat) ({ cls := "java/lang/StringUTF16", name := "newBytesLength", desc := "(I)I" } : Jvm.MethodName)) ∈ lw_all := lw_g (lw_at lw_m1 87 rfl) rfl
theorem q89 : (Jvm.Cond.static ({ cls := "java/lang/StringUTF16", name := "newBytesLength", desc := "(I)I" } : Jvm.MethodName)) ∈ lw_all := lw_g (lw_at lw_m1 88 rfl) rfl
theorem q90 : (Jvm.Cond.code ({ cls := "java/lang/StringUTF16", name := "newBytesLength", desc := "(I)I" } : Jvm.MethodName) prog_16_method_3_code (1 : Nat) (Option.some Jvm.ClassFile.FieldType.int)) ∈ lw_all := lw_g (lw_at lw_m1 89 rfl) rfl
theorem q91 : (Jvm.Cond.constant "java/lang/StringUTF16" (20 : Nat) (1073741823 : Int32)) ∈ lw_all := lw_g (lw_at lw_m1 90 rfl) rfl
theorem q92 : (Jvm.Cond.methodLink "java/lang/StringUTF16" (111 : Nat) ({ cls := "java/lang/StringUTF16", name := "putChar", desc := "([BII)V" } : Jvm.MethodName)) ∈ lw_all := lw_g (lw_at lw_m1 91 rfl) rfl
theorem q93 : (Jvm.Cond.static ({ cls := "java/lang/StringUTF16", name := "putChar", desc := "([BII)V" } : Jvm.MethodName)) ∈ lw_all := lw_g (lw_at lw_m1 92 rfl) rfl
theorem q94 : (Jvm.Cond.code ({ cls := "java/lang/StringUTF16", name := "putChar", desc := "([BII)V" } : Jvm.MethodName) prog_16_method_4_code (3 : Nat) (Option.none : Option Jvm.ClassFile.FieldType)) ∈ lw_all := lw_g (lw_at lw_m1 93 rfl) rfl
theorem q95 : (Jvm.Cond.fieldLink "java/lang/StringUTF16" (44 : Nat) "java/lang/StringUTF16" "$assertionsDisabled" "Z") ∈ lw_all := lw_g (lw_at lw_m1 94 rfl) rfl
theorem q96 : (Jvm.Cond.laysStatic "java/lang/StringUTF16" "$assertionsDisabled" "Z") ∈ lw_tbl := lw_at lw_m1 95 rfl
theorem q97 : (Jvm.Cond.methodLink "java/lang/StringUTF16" (48 : Nat) ({ cls := "java/lang/StringUTF16", name := "length", desc := "([B)I" } : Jvm.MethodName)) ∈ lw_all := lw_g (lw_at lw_m1 96 rfl) rfl
theorem q98 : (Jvm.Cond.static ({ cls := "java/lang/StringUTF16", name := "length", desc := "([B)I" } : Jvm.MethodName)) ∈ lw_all := lw_g (lw_at lw_m1 97 rfl) rfl
theorem q99 : (Jvm.Cond.code ({ cls := "java/lang/StringUTF16", name := "length", desc := "([B)I" } : Jvm.MethodName) prog_16_method_6_code (1 : Nat) (Option.some Jvm.ClassFile.FieldType.int)) ∈ lw_all := lw_g (lw_at lw_m1 98 rfl) rfl
theorem q100 : (Jvm.Cond.fieldLink "java/lang/StringUTF16" (59 : Nat) "java/lang/StringUTF16" "HI_BYTE_SHIFT" "I") ∈ lw_all := lw_g (lw_at lw_m1 99 rfl) rfl
theorem q101 : (Jvm.Cond.laysStatic "java/lang/StringUTF16" "HI_BYTE_SHIFT" "I") ∈ lw_tbl := lw_at lw_m1 100 rfl
theorem q102 : (Jvm.Cond.fieldLink "java/lang/StringUTF16" (63 : Nat) "java/lang/StringUTF16" "LO_BYTE_SHIFT" "I") ∈ lw_all := lw_g (lw_at lw_m1 101 rfl) rfl
theorem q103 : (Jvm.Cond.laysStatic "java/lang/StringUTF16" "LO_BYTE_SHIFT" "I") ∈ lw_tbl := lw_at lw_m1 102 rfl
theorem q104 : (Jvm.Cond.methodLink "java/lang/StringUTF16" (71 : Nat) ({ cls := "java/lang/StringUTF16", name := "getChar", desc := "([BI)C" } : Jvm.MethodName)) ∈ lw_all := lw_g (lw_at lw_m1 103 rfl) rfl
theorem q105 : (Jvm.Cond.static ({ cls := "java/lang/StringUTF16", name := "getChar", desc := "([BI)C" } : Jvm.MethodName)) ∈ lw_all := lw_g (lw_at lw_m1 104 rfl) rfl
theorem q106 : (Jvm.Cond.code ({ cls := "java/lang/StringUTF16", name := "getChar", desc := "([BI)C" } : Jvm.MethodName) prog_16_method_5_code (2 : Nat) (Option.some Jvm.ClassFile.FieldType.char)) ∈ lw_all := lw_g (lw_at lw_m1 105 rfl) rfl
theorem q107 : (Jvm.Cond.methodLink "java/lang/StringUTF16" (123 : Nat) ({ cls := "java/lang/StringUTF16", name := "compress", desc := "([BI[BII)I" } : Jvm.MethodName)) ∈ lw_all := lw_g (lw_at lw_m1 106 rfl) rfl
theorem q108 : (Jvm.Cond.static ({ cls := "java/lang/StringUTF16", name := "compress", desc := "([BI[BII)I" } : Jvm.MethodName)) ∈ lw_all := lw_g (lw_at lw_m1 107 rfl) rfl
theorem q109 : (Jvm.Cond.code ({ cls := "java/lang/StringUTF16", name := "compress", desc := "([BI[BII)I" } : Jvm.MethodName) prog_16_method_22_code (7 : Nat) (Option.some Jvm.ClassFile.FieldType.int)) ∈ lw_all := lw_g (lw_at lw_m1 108 rfl) rfl
theorem q110 : (Jvm.Cond.methodLink "java/lang/StringUTF16" (173 : Nat) ({ cls := "java/lang/StringUTF16", name := "checkBoundsOffCount", desc := "(II[B)V" } : Jvm.MethodName)) ∈ lw_all := lw_g (lw_at lw_m1 109 rfl) rfl
theorem q111 : (Jvm.Cond.static ({ cls := "java/lang/StringUTF16", name := "checkBoundsOffCount", desc := "(II[B)V" } : Jvm.MethodName)) ∈ lw_all := lw_g (lw_at lw_m1 110 rfl) rfl
theorem q112 : (Jvm.Cond.code ({ cls := "java/lang/StringUTF16", name := "checkBoundsOffCount", desc := "(II[B)V" } : Jvm.MethodName) prog_16_method_94_code (3 : Nat) (Option.none : Option Jvm.ClassFile.FieldType)) ∈ lw_all := lw_g (lw_at lw_m1 111 rfl) rfl
theorem q113 : (Jvm.Cond.methodLink "java/lang/StringUTF16" (419 : Nat) ({ cls := "java/lang/String", name := "checkBoundsOffCount", desc := "(III)I" } : Jvm.MethodName)) ∈ lw_all := lw_g (lw_at lw_m1 112 rfl) rfl
theorem q115 : (Jvm.Cond.static ({ cls := "java/lang/StringUTF16", name := "coderFromArrayLen", desc := "([BI)B" } : Jvm.MethodName)) ∈ lw_all := lw_g (lw_at lw_m1 114 rfl) rfl
theorem q116 : (Jvm.Cond.code ({ cls := "java/lang/StringUTF16", name := "coderFromArrayLen", desc := "([BI)B" } : Jvm.MethodName) prog_16_method_15_code (2 : Nat) (Option.some Jvm.ClassFile.FieldType.byte)) ∈ lw_all := lw_g (lw_at lw_m1 115 rfl) rfl
theorem q326 : (Jvm.Cond.static ({ cls := "java/lang/StringUTF16", name := "putCharsAt", desc := "([BICCCC)I" } : Jvm.MethodName)) ∈ lw_all := lw_g (lw_at lw_m2 85 rfl) rfl
theorem q327 : (Jvm.Cond.code ({ cls := "java/lang/StringUTF16", name := "putCharsAt", desc := "([BICCCC)I" } : Jvm.MethodName) prog_16_method_81_code (7 : Nat) (Option.some Jvm.ClassFile.FieldType.int)) ∈ lw_all := lw_g (lw_at lw_m2 86 rfl) rfl
theorem q328 : (Jvm.Cond.methodLink "java/lang/StringUTF16" (96 : Nat) ({ cls := "java/lang/StringUTF16", name := "checkBoundsBeginEnd", desc := "(II[B)V" } : Jvm.MethodName)) ∈ lw_all := lw_g (lw_at lw_m2 87 rfl) rfl
theorem q329 : (Jvm.Cond.static ({ cls := "java/lang/StringUTF16", name := "checkBoundsBeginEnd", desc := "(II[B)V" } : Jvm.MethodName)) ∈ lw_all := lw_g (lw_at lw_m2 88 rfl) rfl
theorem q330 : (Jvm.Cond.code ({ cls := "java/lang/StringUTF16", name := "checkBoundsBeginEnd", desc := "(II[B)V" } : Jvm.MethodName) prog_16_method_93_code (3 : Nat) (Option.none : Option Jvm.ClassFile.FieldType)) ∈ lw_all := lw_g (lw_at lw_m2 89 rfl) rfl
theorem q331 : (Jvm.Cond.methodLink "java/lang/StringUTF16" (241 : Nat) ({ cls := "java/lang/String", name := "checkBoundsBeginEnd", desc := "(III)V" } : Jvm.MethodName)) ∈ lw_all := lw_g (lw_at lw_m2 90 rfl) rfl
theorem q355 : (Jvm.Cond.static ({ cls := "java/lang/StringUTF16", name := "inflate", desc := "([BI[BII)V" } : Jvm.MethodName)) ∈ lw_all := lw_g (lw_at lw_m2 114 rfl) rfl
theorem q356 : (Jvm.Cond.code ({ cls := "java/lang/StringUTF16", name := "inflate", desc := "([BI[BII)V" } : Jvm.MethodName) prog_16_method_86_code (6 : Nat) (Option.none : Option Jvm.ClassFile.FieldType)) ∈ lw_all := lw_g (lw_at lw_m2 115 rfl) rfl
theorem q415 : (Jvm.Cond.static ({ cls := "java/lang/StringUTF16", name := "charAt", desc := "([BI)C" } : Jvm.MethodName)) ∈ lw_all := lw_g (lw_at lw_m2 174 rfl) rfl
theorem q416 : (Jvm.Cond.code ({ cls := "java/lang/StringUTF16", name := "charAt", desc := "([BI)C" } : Jvm.MethodName) prog_16_method_83_code (2 : Nat) (Option.some Jvm.ClassFile.FieldType.char)) ∈ lw_all := lw_g (lw_at lw_m2 175 rfl) rfl
theorem q417 : (Jvm.Cond.methodLink "java/lang/StringUTF16" (67 : Nat) ({ cls := "java/lang/StringUTF16", name := "checkIndex", desc := "(I[B)V" } : Jvm.MethodName)) ∈ lw_all := lw_g (lw_at lw_m2 176 rfl) rfl
theorem q418 : (Jvm.Cond.static ({ cls := "java/lang/StringUTF16", name := "checkIndex", desc := "(I[B)V" } : Jvm.MethodName)) ∈ lw_all := lw_g (lw_at lw_m2 177 rfl) rfl
theorem q419 : (Jvm.Cond.code ({ cls := "java/lang/StringUTF16", name := "checkIndex", desc := "(I[B)V" } : Jvm.MethodName) prog_16_method_91_code (2 : Nat) (Option.none : Option Jvm.ClassFile.FieldType)) ∈ lw_all := lw_g (lw_at lw_m2 178 rfl) rfl
theorem q420 : (Jvm.Cond.methodLink "java/lang/StringUTF16" (414 : Nat) ({ cls := "java/lang/String", name := "checkIndex", desc := "(II)V" } : Jvm.MethodName)) ∈ lw_all := lw_g (lw_at lw_m2 179 rfl) rfl
theorem q467 : (Jvm.Cond.static ({ cls := "java/lang/StringUTF16", name := "fillNull", desc := "([BII)V" } : Jvm.MethodName)) ∈ lw_all := lw_g (lw_at lw_m2 226 rfl) rfl
theorem q468 : (Jvm.Cond.code ({ cls := "java/lang/StringUTF16", name := "fillNull", desc := "([BII)V" } : Jvm.MethodName) prog_16_method_70_code (3 : Nat) (Option.none : Option Jvm.ClassFile.FieldType)) ∈ lw_all := lw_g (lw_at lw_m2 227 rfl) rfl
theorem q469 : (Jvm.Cond.methodLink "java/lang/StringUTF16" (380 : Nat) ({ cls := "java/util/Arrays", name := "fill", desc := "([BIIB)V" } : Jvm.MethodName)) ∈ lw_all := lw_g (lw_at lw_m2 228 rfl) rfl
theorem q490 : (Jvm.Cond.static ({ cls := "java/lang/StringUTF16", name := "putCharSB", desc := "([BII)V" } : Jvm.MethodName)) ∈ lw_all := lw_g (lw_at lw_m3 9 rfl) rfl
theorem q491 : (Jvm.Cond.code ({ cls := "java/lang/StringUTF16", name := "putCharSB", desc := "([BII)V" } : Jvm.MethodName) prog_16_method_71_code (3 : Nat) (Option.none : Option Jvm.ClassFile.FieldType)) ∈ lw_all := lw_g (lw_at lw_m3 10 rfl) rfl
theorem q520 : (Jvm.Cond.static ({ cls := "java/lang/StringUTF16", name := "compress", desc := "([BII)[B" } : Jvm.MethodName)) ∈ lw_all := lw_g (lw_at lw_m3 39 rfl) rfl
theorem q521 : (Jvm.Cond.code ({ cls := "java/lang/StringUTF16", name := "compress", desc := "([BII)[B" } : Jvm.MethodName) prog_16_method_17_code (6 : Nat) (Option.some (Jvm.ClassFile.FieldType.array Jvm.ClassFile.FieldType.byte))) ∈ lw_all := lw_g (lw_at lw_m3 40 rfl) rfl
theorem q522 : (Jvm.Cond.methodLink "java/lang/StringUTF16" (126 : Nat) ({ cls := "java/util/Arrays", name := "copyOfRange", desc := "([BII)[B" } : Jvm.MethodName)) ∈ lw_all := lw_g (lw_at lw_m3 41 rfl) rfl
def RJ3 : String := "java/lang/Throwable"
def TJ3 : u_T := fun k => match k with
  | 0 => ("java/lang/Throwable", "cause", "Ljava/lang/Throwable;", false)
  | 1 => ("java/lang/Throwable", "stackTrace", "[Ljava/lang/StackTraceElement;", false)
  | 2 => ("java/lang/Throwable", "suppressedExceptions", "Ljava/util/List;", false)
  | 3 => ("java/lang/Throwable", "detailMessage", "Ljava/lang/String;", false)
  | _ => ("java/lang/Throwable", "backtrace", "Ljava/lang/Object;", false)
def tyJ3 : Nat → FieldType := fun k => match k with
  | 0 => .object "java/lang/Throwable"
  | 1 => .array (.object "java/lang/StackTraceElement")
  | 2 => .object "java/util/List"
  | 3 => .object "java/lang/String"
  | _ => .object "java/lang/Object"
abbrev wsJ30 : List Cond := u_ws RJ3 TJ3 5
theorem nmJ3 : ∀ a, a < 5 → ∀ b, b < 5 → a ≠ b → (TJ3 a).2.1 ≠ (TJ3 b).2.1 := by decide +kernel
theorem tyJ3_ok : ∀ k, k < 5 → parseFieldDescriptor (TJ3 k).2.2.1 = some (tyJ3 k) := by decide +kernel
theorem q9 : (Jvm.Cond.initialized "java/lang/Throwable") ∈ lw_all := lw_g (lw_at lw_m1 8 rfl) rfl
theorem q187 : (Jvm.Cond.declares ({ cls := "java/lang/Throwable", name := "<init>", desc := "()V" } : Jvm.MethodName)) ∈ lw_tbl := lw_at lw_m1 186 rfl
theorem q188 : (Jvm.Cond.declares ({ cls := "java/lang/Throwable", name := "<init>", desc := "(Ljava/lang/String;)V" } : Jvm.MethodName)) ∈ lw_tbl := lw_at lw_m1 187 rfl
theorem q192 : (Jvm.Cond.lays "java/lang/Throwable" "java/lang/Throwable" "cause" "Ljava/lang/Throwable;") ∈ lw_all := lw_g (lw_at lw_m1 191 rfl) rfl
theorem q194 : (Jvm.Cond.lays "java/lang/Throwable" "java/lang/Throwable" "stackTrace" "[Ljava/lang/StackTraceElement;") ∈ lw_all := lw_g (lw_at lw_m1 193 rfl) rfl
theorem q196 : (Jvm.Cond.lays "java/lang/Throwable" "java/lang/Throwable" "suppressedExceptions" "Ljava/util/List;") ∈ lw_all := lw_g (lw_at lw_m1 195 rfl) rfl
theorem q198 : (Jvm.Cond.lays "java/lang/Throwable" "java/lang/Throwable" "detailMessage" "Ljava/lang/String;") ∈ lw_all := lw_g (lw_at lw_m1 197 rfl) rfl
theorem q200 : (Jvm.Cond.lays "java/lang/Throwable" "java/lang/Throwable" "backtrace" "Ljava/lang/Object;") ∈ lw_all := lw_g (lw_at lw_m1 199 rfl) rfl
theorem q201 : (Jvm.Cond.fieldLink "java/lang/Throwable" (198 : Nat) "java/lang/Throwable" "backtrace" "Ljava/lang/Object;") ∈ lw_all := lw_g (lw_at lw_m1 200 rfl) rfl
theorem q202 : (Jvm.Cond.superclass "java/lang/Throwable" "java/lang/Object") ∈ lw_all := lw_g (lw_at lw_m1 201 rfl) rfl
theorem q203 : (Jvm.Cond.instanceMethod ({ cls := "java/lang/Throwable", name := "<init>", desc := "()V" } : Jvm.MethodName)) ∈ lw_all := lw_g (lw_at lw_m1 202 rfl) rfl
theorem q204 : (Jvm.Cond.code ({ cls := "java/lang/Throwable", name := "<init>", desc := "()V" } : Jvm.MethodName) prog_18_method_1_code (1 : Nat) (Option.none : Option Jvm.ClassFile.FieldType)) ∈ lw_all := lw_g (lw_at lw_m1 203 rfl) rfl
theorem q205 : (Jvm.Cond.methodLink "java/lang/Throwable" (1 : Nat) ({ cls := "java/lang/Object", name := "<init>", desc := "()V" } : Jvm.MethodName)) ∈ lw_all := lw_g (lw_at lw_m1 204 rfl) rfl
theorem q206 : (Jvm.Cond.fieldLink "java/lang/Throwable" (13 : Nat) "java/lang/Throwable" "UNASSIGNED_STACK" "[Ljava/lang/StackTraceElement;") ∈ lw_all := lw_g (lw_at lw_m1 205 rfl) rfl
theorem q207 : (Jvm.Cond.laysStatic "java/lang/Throwable" "UNASSIGNED_STACK" "[Ljava/lang/StackTraceElement;") ∈ lw_tbl := lw_at lw_m1 206 rfl
theorem q208 : (Jvm.Cond.fieldLink "java/lang/Throwable" (20 : Nat) "java/lang/Throwable" "SUPPRESSED_SENTINEL" "Ljava/util/List;") ∈ lw_all := lw_g (lw_at lw_m1 207 rfl) rfl
theorem q209 : (Jvm.Cond.laysStatic "java/lang/Throwable" "SUPPRESSED_SENTINEL" "Ljava/util/List;") ∈ lw_tbl := lw_at lw_m1 208 rfl
theorem q210 : (Jvm.Cond.methodLink "java/lang/Throwable" (27 : Nat) ({ cls := "java/lang/Throwable", name := "fillInStackTrace", desc := "()Ljava/lang/Throwable;" } : Jvm.MethodName)) ∈ lw_all := lw_g (lw_at lw_m1 209 rfl) rfl
theorem q211 : (Jvm.Cond.instanceMethod ({ cls := "java/lang/Throwable", name := "fillInStackTrace", desc := "()Ljava/lang/Throwable;" } : Jvm.MethodName)) ∈ lw_all := lw_g (lw_at lw_m1 210 rfl) rfl
theorem q212 : (Jvm.Cond.sameMethod "java/lang/Throwable" "java/lang/Throwable" "fillInStackTrace" "()Ljava/lang/Throwable;") ∈ lw_all := lw_g (lw_at lw_m1 211 rfl) rfl
theorem q213 : (Jvm.Cond.codeSync ({ cls := "java/lang/Throwable", name := "fillInStackTrace", desc := "()Ljava/lang/Throwable;" } : Jvm.MethodName) prog_18_method_18_code (1 : Nat) (Option.some (Jvm.ClassFile.FieldType.object "java/lang/Throwable"))) ∈ lw_all := lw_g (lw_at lw_m1 212 rfl) rfl
theorem q214 : (Jvm.Cond.methodLink "java/lang/Throwable" (202 : Nat) ({ cls := "java/lang/Throwable", name := "fillInStackTrace", desc := "(I)Ljava/lang/Throwable;" } : Jvm.MethodName)) ∈ lw_all := lw_g (lw_at lw_m1 213 rfl) rfl
theorem q215 : (Jvm.Cond.privateMethod ({ cls := "java/lang/Throwable", name := "fillInStackTrace", desc := "(I)Ljava/lang/Throwable;" } : Jvm.MethodName)) ∈ lw_tbl := lw_at lw_m1 214 rfl
theorem q216 : (Jvm.Cond.instanceMethod ({ cls := "java/lang/Throwable", name := "fillInStackTrace", desc := "(I)Ljava/lang/Throwable;" } : Jvm.MethodName)) ∈ lw_all := lw_g (lw_at lw_m1 215 rfl) rfl
theorem q217 : (Jvm.Cond.instantiable "java/lang/Throwable" (6 : Nat)) ∈ lw_all := lw_g (lw_at lw_m1 216 rfl) rfl
theorem q218 : (Jvm.Cond.native ({ cls := "java/lang/Throwable", name := "fillInStackTrace", desc := "(I)Ljava/lang/Throwable;" } : Jvm.MethodName)) ∈ lw_all := lw_g (lw_at lw_m1 217 rfl) rfl
theorem q230 : (Jvm.Cond.instanceMethod ({ cls := "java/lang/Throwable", name := "<init>", desc := "(Ljava/lang/String;)V" } : Jvm.MethodName)) ∈ lw_all := lw_g (lw_at lw_m1 229 rfl) rfl
theorem q231 : (Jvm.Cond.code ({ cls := "java/lang/Throwable", name := "<init>", desc := "(Ljava/lang/String;)V" } : Jvm.MethodName) prog_18_method_2_code (2 : Nat) (Option.none : Option Jvm.ClassFile.FieldType)) ∈ lw_all := lw_g (lw_at lw_m1 230 rfl) rfl
theorem q232 : (Jvm.Cond.fieldLink "java/lang/Throwable" (198 : Nat) "java/lang/Throwable" "backtrace" "Ljava/lang/Object;") ∈ lw_all := lw_g (lw_at lw_m1 231 rfl) rfl
theorem q233 : (Jvm.Cond.fieldLink "java/lang/Throwable" (31 : Nat) "java/lang/Throwable" "detailMessage" "Ljava/lang/String;") ∈ lw_all := lw_g (lw_at lw_m1 232 rfl) rfl
theorem q234 : (Jvm.Cond.fieldLink "java/lang/Throwable" (7 : Nat) "java/lang/Throwable" "cause" "Ljava/lang/Throwable;") ∈ lw_all := lw_g (lw_at lw_m1 233 rfl) rfl
theorem q235 : (Jvm.Cond.fieldLink "java/lang/Throwable" (17 : Nat) "java/lang/Throwable" "stackTrace" "[Ljava/lang/StackTraceElement;") ∈ lw_all := lw_g (lw_at lw_m1 234 rfl) rfl
theorem q236 : (Jvm.Cond.fieldLink "java/lang/Throwable" (24 : Nat) "java/lang/Throwable" "suppressedExceptions" "Ljava/util/List;") ∈ lw_all := lw_g (lw_at lw_m1 235 rfl) rfl
theorem q237 : (Jvm.Cond.soleField "java/lang/Throwable" "backtrace") ∈ lw_all := lw_g (lw_at lw_m1 236 rfl) rfl
theorem q238 : (Jvm.Cond.soleField "java/lang/Throwable" "detailMessage") ∈ lw_all := lw_g (lw_at lw_m1 237 rfl) rfl
theorem q239 : (Jvm.Cond.soleField "java/lang/Throwable" "cause") ∈ lw_all := lw_g (lw_at lw_m1 238 rfl) rfl
theorem q240 : (Jvm.Cond.soleField "java/lang/Throwable" "stackTrace") ∈ lw_all := lw_g (lw_at lw_m1 239 rfl) rfl
theorem q242 : (Jvm.Cond.soleField "java/lang/Throwable" "depth") ∈ lw_all := lw_g (lw_at lw_m2 1 rfl) rfl
theorem q243 : (Jvm.Cond.soleField "java/lang/Throwable" "suppressedExceptions") ∈ lw_all := lw_g (lw_at lw_m2 2 rfl) rfl
theorem q579 : (Jvm.Cond.sameMethod "java/lang/Throwable" "java/lang/Throwable" "fillInStackTrace" "(I)Ljava/lang/Throwable;") ∈ lw_all := lw_g (lw_at lw_m3 98 rfl) rfl
theorem in_J3 : ∀ w ∈ wsJ30, w ∈ lw_all := lw_in wsJ30 [192, 194, 196, 198, 200] (by decide +kernel) (by decide +kernel)
def RJ4 : String := "java/lang/Exception"
theorem q10 : (Jvm.Cond.initialized "java/lang/Exception") ∈ lw_all := lw_g (lw_at lw_m1 9 rfl) rfl
theorem q185 : (Jvm.Cond.declares ({ cls := "java/lang/Exception", name := "<init>", desc := "()V" } : Jvm.MethodName)) ∈ lw_tbl := lw_at lw_m1 184 rfl
theorem q186 : (Jvm.Cond.declares ({ cls := "java/lang/Exception", name := "<init>", desc := "(Ljava/lang/String;)V" } : Jvm.MethodName)) ∈ lw_tbl := lw_at lw_m1 185 rfl
theorem q227 : (Jvm.Cond.instanceMethod ({ cls := "java/lang/Exception", name := "<init>", desc := "(Ljava/lang/String;)V" } : Jvm.MethodName)) ∈ lw_all := lw_g (lw_at lw_m1 226 rfl) rfl
theorem q228 : (Jvm.Cond.code ({ cls := "java/lang/Exception", name := "<init>", desc := "(Ljava/lang/String;)V" } : Jvm.MethodName) prog_9_method_2_code (2 : Nat) (Option.none : Option Jvm.ClassFile.FieldType)) ∈ lw_all := lw_g (lw_at lw_m1 227 rfl) rfl
theorem q229 : (Jvm.Cond.methodLink "java/lang/Exception" (7 : Nat) ({ cls := "java/lang/Throwable", name := "<init>", desc := "(Ljava/lang/String;)V" } : Jvm.MethodName)) ∈ lw_all := lw_g (lw_at lw_m1 228 rfl) rfl
def RJ5 : String := "java/lang/RuntimeException"
theorem q11 : (Jvm.Cond.initialized "java/lang/RuntimeException") ∈ lw_all := lw_g (lw_at lw_m1 10 rfl) rfl
theorem q183 : (Jvm.Cond.declares ({ cls := "java/lang/RuntimeException", name := "<init>", desc := "()V" } : Jvm.MethodName)) ∈ lw_tbl := lw_at lw_m1 182 rfl
theorem q184 : (Jvm.Cond.declares ({ cls := "java/lang/RuntimeException", name := "<init>", desc := "(Ljava/lang/String;)V" } : Jvm.MethodName)) ∈ lw_tbl := lw_at lw_m1 183 rfl
theorem q224 : (Jvm.Cond.instanceMethod ({ cls := "java/lang/RuntimeException", name := "<init>", desc := "(Ljava/lang/String;)V" } : Jvm.MethodName)) ∈ lw_all := lw_g (lw_at lw_m1 223 rfl) rfl
theorem q225 : (Jvm.Cond.code ({ cls := "java/lang/RuntimeException", name := "<init>", desc := "(Ljava/lang/String;)V" } : Jvm.MethodName) prog_12_method_2_code (2 : Nat) (Option.none : Option Jvm.ClassFile.FieldType)) ∈ lw_all := lw_g (lw_at lw_m1 224 rfl) rfl
theorem q226 : (Jvm.Cond.methodLink "java/lang/RuntimeException" (7 : Nat) ({ cls := "java/lang/Exception", name := "<init>", desc := "(Ljava/lang/String;)V" } : Jvm.MethodName)) ∈ lw_all := lw_g (lw_at lw_m1 225 rfl) rfl
def RJ6 : String := "java/lang/IllegalArgumentException"
def TJ6 : u_T := fun k => match k with
  | 0 => ("java/lang/Throwable", "cause", "Ljava/lang/Throwable;", false)
  | 1 => ("java/lang/Throwable", "stackTrace", "[Ljava/lang/StackTraceElement;", false)
  | 2 => ("java/lang/Throwable", "suppressedExceptions", "Ljava/util/List;", false)
  | 3 => ("java/lang/Throwable", "detailMessage", "Ljava/lang/String;", false)
  | 4 => ("java/lang/Throwable", "backtrace", "Ljava/lang/Object;", false)
  | _ => ("java/lang/Throwable", "depth", "I", false)
def tyJ6 : Nat → FieldType := fun k => match k with
  | 0 => .object "java/lang/Throwable"
  | 1 => .array (.object "java/lang/StackTraceElement")
  | 2 => .object "java/util/List"
  | 3 => .object "java/lang/String"
  | 4 => .object "java/lang/Object"
  | _ => .int
abbrev wsJ60 : List Cond := u_ws RJ6 TJ6 6
theorem nmJ6 : ∀ a, a < 6 → ∀ b, b < 6 → a ≠ b → (TJ6 a).2.1 ≠ (TJ6 b).2.1 := by decide +kernel
theorem tyJ6_ok : ∀ k, k < 6 → parseFieldDescriptor (TJ6 k).2.2.1 = some (tyJ6 k) := by decide +kernel
theorem q12 : (Jvm.Cond.initialized "java/lang/IllegalArgumentException") ∈ lw_all := lw_g (lw_at lw_m1 11 rfl) rfl
theorem q181 : (Jvm.Cond.instantiable "java/lang/IllegalArgumentException" (6 : Nat)) ∈ lw_all := lw_g (lw_at lw_m1 180 rfl) rfl
theorem q182 : (Jvm.Cond.castable "java/lang/IllegalArgumentException" "java/lang/IllegalArgumentException") ∈ lw_tbl := lw_at lw_m1 181 rfl
theorem q189 : (Jvm.Cond.selects "java/lang/IllegalArgumentException" ({ cls := "java/lang/Throwable", name := "fillInStackTrace", desc := "(I)Ljava/lang/Throwable;" } : Jvm.MethodName) ({ cls := "java/lang/Throwable", name := "fillInStackTrace", desc := "(I)Ljava/lang/Throwable;" } : Jvm.MethodName)) ∈ lw_all := lw_g (lw_at lw_m1 188 rfl) rfl
theorem q190 : (Jvm.Cond.selects "java/lang/IllegalArgumentException" ({ cls := "java/lang/Throwable", name := "fillInStackTrace", desc := "()Ljava/lang/Throwable;" } : Jvm.MethodName) ({ cls := "java/lang/Throwable", name := "fillInStackTrace", desc := "()Ljava/lang/Throwable;" } : Jvm.MethodName)) ∈ lw_all := lw_g (lw_at lw_m1 189 rfl) rfl
theorem q191 : (Jvm.Cond.lays "java/lang/IllegalArgumentException" "java/lang/Throwable" "cause" "Ljava/lang/Throwable;") ∈ lw_all := lw_g (lw_at lw_m1 190 rfl) rfl
theorem q193 : (Jvm.Cond.lays "java/lang/IllegalArgumentException" "java/lang/Throwable" "stackTrace" "[Ljava/lang/StackTraceElement;") ∈ lw_all := lw_g (lw_at lw_m1 192 rfl) rfl
theorem q195 : (Jvm.Cond.lays "java/lang/IllegalArgumentException" "java/lang/Throwable" "suppressedExceptions" "Ljava/util/List;") ∈ lw_all := lw_g (lw_at lw_m1 194 rfl) rfl
theorem q197 : (Jvm.Cond.lays "java/lang/IllegalArgumentException" "java/lang/Throwable" "detailMessage" "Ljava/lang/String;") ∈ lw_all := lw_g (lw_at lw_m1 196 rfl) rfl
theorem q199 : (Jvm.Cond.lays "java/lang/IllegalArgumentException" "java/lang/Throwable" "backtrace" "Ljava/lang/Object;") ∈ lw_all := lw_g (lw_at lw_m1 198 rfl) rfl
theorem q221 : (Jvm.Cond.instanceMethod ({ cls := "java/lang/IllegalArgumentException", name := "<init>", desc := "(Ljava/lang/String;)V" } : Jvm.MethodName)) ∈ lw_all := lw_g (lw_at lw_m1 220 rfl) rfl
theorem q222 : (Jvm.Cond.code ({ cls := "java/lang/IllegalArgumentException", name := "<init>", desc := "(Ljava/lang/String;)V" } : Jvm.MethodName) prog_10_method_2_code (2 : Nat) (Option.none : Option Jvm.ClassFile.FieldType)) ∈ lw_all := lw_g (lw_at lw_m1 221 rfl) rfl
theorem q223 : (Jvm.Cond.methodLink "java/lang/IllegalArgumentException" (7 : Nat) ({ cls := "java/lang/RuntimeException", name := "<init>", desc := "(Ljava/lang/String;)V" } : Jvm.MethodName)) ∈ lw_all := lw_g (lw_at lw_m1 222 rfl) rfl
theorem q241 : (Jvm.Cond.lays "java/lang/IllegalArgumentException" "java/lang/Throwable" "depth" "I") ∈ lw_all := lw_g (lw_at lw_m2 0 rfl) rfl
theorem q244 : (Jvm.Cond.superclass "java/lang/IllegalArgumentException" "java/lang/RuntimeException") ∈ lw_all := lw_g (lw_at lw_m2 3 rfl) rfl
theorem in_J6 : ∀ w ∈ wsJ60, w ∈ lw_all := lw_in wsJ60 [191, 193, 195, 197, 199, 241] (by decide +kernel) (by decide +kernel)
def RJ7 : String := "java/lang/AbstractStringBuilder"
abbrev cJ7_init : ByteArray := prog_6_method_2_code
def yJ7_init : MethodName := ⟨RJ7, "<init>", "(I)V"⟩
def dkwJ7_init_1 : List UInt8 := [167, 0, 16, 42, 27, 184, 0, 26, 181, 0, 15, 42, 4, 181, 0, 22, 177]
abbrev dktJ7_init_1 : List UInt8 := dkwJ7_init_1 ++ []
def dkwJ7_init_0 : List UInt8 := [42, 183, 0, 3, 178, 0, 18, 153, 0, 18, 42, 27, 188, 8, 181, 0, 15, 42, 3, 181, 0, 22]
abbrev dktJ7_init_0 : List UInt8 := dkwJ7_init_0 ++ dktJ7_init_1
theorem dksJ7_init_0 : cJ7_init.data.toList.drop 0 = dktJ7_init_0 := by decide +kernel
theorem dksJ7_init_1 : cJ7_init.data.toList.drop 22 = dktJ7_init_1 := dk_seg dksJ7_init_0 22 rfl rfl
theorem dJ7_init_0 : decode cJ7_init 0 = .ok (.aload_n 0, 1) := dk_42 (dk_at dksJ7_init_0 0 rfl rfl)
theorem dJ7_init_1 : decode cJ7_init 1 = .ok (.invokespecial 3, 3) := dk_183 0 3 (dk_at dksJ7_init_0 1 rfl rfl)
theorem dJ7_init_4 : decode cJ7_init 4 = .ok (.getstatic 18, 3) := dk_178 0 18 (dk_at dksJ7_init_0 4 rfl rfl)
theorem dJ7_init_7 : decode cJ7_init 7 = .ok (.ifCond .eq 18, 3) := dk_153 0 18 (dk_at dksJ7_init_0 7 rfl rfl)
theorem dJ7_init_10 : decode cJ7_init 10 = .ok (.aload_n 0, 1) := dk_42 (dk_at dksJ7_init_0 10 rfl rfl)
theorem dJ7_init_11 : decode cJ7_init 11 = .ok (.iload_n 1, 1) := dk_27 (dk_at dksJ7_init_0 11 rfl rfl)
theorem dJ7_init_12 : decode cJ7_init 12 = .ok (.newarray .byte, 2) := dk_188_8 (dk_at dksJ7_init_0 12 rfl rfl)
theorem dJ7_init_14 : decode cJ7_init 14 = .ok (.putfield 15, 3) := dk_181 0 15 (dk_at dksJ7_init_0 14 rfl rfl)
theorem dJ7_init_17 : decode cJ7_init 17 = .ok (.aload_n 0, 1) := dk_42 (dk_at dksJ7_init_0 17 rfl rfl)
theorem dJ7_init_18 : decode cJ7_init 18 = .ok (.iconst 0, 1) := dk_3 (dk_at dksJ7_init_0 18 rfl rfl)
theorem dJ7_init_19 : decode cJ7_init 19 = .ok (.putfield 22, 3) := dk_181 0 22 (dk_at dksJ7_init_0 19 rfl rfl)
theorem dJ7_init_22 : decode cJ7_init 22 = .ok (.goto 16, 3) := dk_167 0 16 (dk_at dksJ7_init_1 0 rfl rfl)
theorem dJ7_init_25 : decode cJ7_init 25 = .ok (.aload_n 0, 1) := dk_42 (dk_at dksJ7_init_1 3 rfl rfl)
theorem dJ7_init_26 : decode cJ7_init 26 = .ok (.iload_n 1, 1) := dk_27 (dk_at dksJ7_init_1 4 rfl rfl)
theorem dJ7_init_27 : decode cJ7_init 27 = .ok (.invokestatic 26, 3) := dk_184 0 26 (dk_at dksJ7_init_1 5 rfl rfl)
theorem dJ7_init_30 : decode cJ7_init 30 = .ok (.putfield 15, 3) := dk_181 0 15 (dk_at dksJ7_init_1 8 rfl rfl)
theorem dJ7_init_33 : decode cJ7_init 33 = .ok (.aload_n 0, 1) := dk_42 (dk_at dksJ7_init_1 11 rfl rfl)
theorem dJ7_init_34 : decode cJ7_init 34 = .ok (.iconst 1, 1) := dk_4 (dk_at dksJ7_init_1 12 rfl rfl)
theorem dJ7_init_35 : decode cJ7_init 35 = .ok (.putfield 22, 3) := dk_181 0 22 (dk_at dksJ7_init_1 13 rfl rfl)
theorem dJ7_init_38 : decode cJ7_init 38 = .ok (.return_, 1) := dk_177 (dk_at dksJ7_init_1 16 rfl rfl)
abbrev cJ7_append : ByteArray := prog_6_method_22_code
def yJ7_append : MethodName := ⟨RJ7, "append", "(Ljava/lang/String;)Ljava/lang/AbstractStringBuilder;"⟩
def dkwJ7_append_1 : List UInt8 := [42, 42, 180, 0, 79, 43, 182, 0, 208, 42, 89, 180, 0, 79, 28, 96, 181, 0, 79, 42, 176]
abbrev dktJ7_append_1 : List UInt8 := dkwJ7_append_1 ++ []
def dkwJ7_append_0 : List UInt8 := [43, 199, 0, 8, 42, 182, 0, 204, 176, 43, 182, 0, 32, 61, 42, 42, 180, 0, 79, 28, 96, 182, 0, 100]
abbrev dktJ7_append_0 : List UInt8 := dkwJ7_append_0 ++ dktJ7_append_1
theorem dksJ7_append_0 : cJ7_append.data.toList.drop 0 = dktJ7_append_0 := by decide +kernel
theorem dksJ7_append_1 : cJ7_append.data.toList.drop 24 = dktJ7_append_1 := dk_seg dksJ7_append_0 24 rfl rfl
theorem dJ7_append_0 : decode cJ7_append 0 = .ok (.aload_n 1, 1) := dk_43 (dk_at dksJ7_append_0 0 rfl rfl)
theorem dJ7_append_1 : decode cJ7_append 1 = .ok (.ifnonnull 8, 3) := dk_199 0 8 (dk_at dksJ7_append_0 1 rfl rfl)
theorem dJ7_append_4 : decode cJ7_append 4 = .ok (.aload_n 0, 1) := dk_42 (dk_at dksJ7_append_0 4 rfl rfl)
theorem dJ7_append_5 : decode cJ7_append 5 = .ok (.invokevirtual 204, 3) := dk_182 0 204 (dk_at dksJ7_append_0 5 rfl rfl)
theorem dJ7_append_8 : decode cJ7_append 8 = .ok (.areturn, 1) := dk_176 (dk_at dksJ7_append_0 8 rfl rfl)
theorem dJ7_append_9 : decode cJ7_append 9 = .ok (.aload_n 1, 1) := dk_43 (dk_at dksJ7_append_0 9 rfl rfl)
theorem dJ7_append_10 : decode cJ7_append 10 = .ok (.invokevirtual 32, 3) := dk_182 0 32 (dk_at dksJ7_append_0 10 rfl rfl)
theorem dJ7_append_13 : decode cJ7_append 13 = .ok (.istore_n 2, 1) := dk_61 (dk_at dksJ7_append_0 13 rfl rfl)
theorem dJ7_append_14 : decode cJ7_append 14 = .ok (.aload_n 0, 1) := dk_42 (dk_at dksJ7_append_0 14 rfl rfl)
theorem dJ7_append_15 : decode cJ7_append 15 = .ok (.aload_n 0, 1) := dk_42 (dk_at dksJ7_append_0 15 rfl rfl)
theorem dJ7_append_16 : decode cJ7_append 16 = .ok (.getfield 79, 3) := dk_180 0 79 (dk_at dksJ7_append_0 16 rfl rfl)
theorem dJ7_append_19 : decode cJ7_append 19 = .ok (.iload_n 2, 1) := dk_28 (dk_at dksJ7_append_0 19 rfl rfl)
theorem dJ7_append_20 : decode cJ7_append 20 = .ok (.iadd, 1) := dk_96 (dk_at dksJ7_append_0 20 rfl rfl)
theorem dJ7_append_21 : decode cJ7_append 21 = .ok (.invokevirtual 100, 3) := dk_182 0 100 (dk_at dksJ7_append_0 21 rfl rfl)
theorem dJ7_append_24 : decode cJ7_append 24 = .ok (.aload_n 0, 1) := dk_42 (dk_at dksJ7_append_1 0 rfl rfl)
theorem dJ7_append_25 : decode cJ7_append 25 = .ok (.aload_n 0, 1) := dk_42 (dk_at dksJ7_append_1 1 rfl rfl)
theorem dJ7_append_26 : decode cJ7_append 26 = .ok (.getfield 79, 3) := dk_180 0 79 (dk_at dksJ7_append_1 2 rfl rfl)
theorem dJ7_append_29 : decode cJ7_append 29 = .ok (.aload_n 1, 1) := dk_43 (dk_at dksJ7_append_1 5 rfl rfl)
theorem dJ7_append_30 : decode cJ7_append 30 = .ok (.invokevirtual 208, 3) := dk_182 0 208 (dk_at dksJ7_append_1 6 rfl rfl)
theorem dJ7_append_33 : decode cJ7_append 33 = .ok (.aload_n 0, 1) := dk_42 (dk_at dksJ7_append_1 9 rfl rfl)
theorem dJ7_append_34 : decode cJ7_append 34 = .ok (.dup, 1) := dk_89 (dk_at dksJ7_append_1 10 rfl rfl)
theorem dJ7_append_35 : decode cJ7_append 35 = .ok (.getfield 79, 3) := dk_180 0 79 (dk_at dksJ7_append_1 11 rfl rfl)
theorem dJ7_append_38 : decode cJ7_append 38 = .ok (.iload_n 2, 1) := dk_28 (dk_at dksJ7_append_1 14 rfl rfl)
theorem dJ7_append_39 : decode cJ7_append 39 = .ok (.iadd, 1) := dk_96 (dk_at dksJ7_append_1 15 rfl rfl)
theorem dJ7_append_40 : decode cJ7_append 40 = .ok (.putfield 79, 3) := dk_181 0 79 (dk_at dksJ7_append_1 16 rfl rfl)
theorem dJ7_append_43 : decode cJ7_append 43 = .ok (.aload_n 0, 1) := dk_42 (dk_at dksJ7_append_1 19 rfl rfl)
theorem dJ7_append_44 : decode cJ7_append 44 = .ok (.areturn, 1) := dk_176 (dk_at dksJ7_append_1 20 rfl rfl)
abbrev cJ7_ensureCapacityInternal : ByteArray := prog_6_method_9_code
def yJ7_ensureCapacityInternal : MethodName := ⟨RJ7, "ensureCapacityInternal", "(I)V"⟩
def dkwJ7_ensureCapacityInternal_1 : List UInt8 := [182, 0, 104, 42, 180, 0, 22, 120, 184, 0, 108, 181, 0, 15, 177]
abbrev dktJ7_ensureCapacityInternal_1 : List UInt8 := dkwJ7_ensureCapacityInternal_1 ++ []
def dkwJ7_ensureCapacityInternal_0 : List UInt8 := [42, 180, 0, 15, 190, 42, 180, 0, 22, 122, 61, 27, 28, 100, 158, 0, 24, 42, 42, 180, 0, 15, 42, 27]
abbrev dktJ7_ensureCapacityInternal_0 : List UInt8 := dkwJ7_ensureCapacityInternal_0 ++ dktJ7_ensureCapacityInternal_1
theorem dksJ7_ensureCapacityInternal_0 : cJ7_ensureCapacityInternal.data.toList.drop 0 = dktJ7_ensureCapacityInternal_0 := by decide +kernel
theorem dksJ7_ensureCapacityInternal_1 : cJ7_ensureCapacityInternal.data.toList.drop 24 = dktJ7_ensureCapacityInternal_1 := dk_seg dksJ7_ensureCapacityInternal_0 24 rfl rfl
theorem dJ7_ensureCapacityInternal_0 : decode cJ7_ensureCapacityInternal 0 = .ok (.aload_n 0, 1) := dk_42 (dk_at dksJ7_ensureCapacityInternal_0 0 rfl rfl)
theorem dJ7_ensureCapacityInternal_1 : decode cJ7_ensureCapacityInternal 1 = .ok (.getfield 15, 3) := dk_180 0 15 (dk_at dksJ7_ensureCapacityInternal_0 1 rfl rfl)
theorem dJ7_ensureCapacityInternal_4 : decode cJ7_ensureCapacityInternal 4 = .ok (.arraylength, 1) := dk_190 (dk_at dksJ7_ensureCapacityInternal_0 4 rfl rfl)
theorem dJ7_ensureCapacityInternal_5 : decode cJ7_ensureCapacityInternal 5 = .ok (.aload_n 0, 1) := dk_42 (dk_at dksJ7_ensureCapacityInternal_0 5 rfl rfl)
theorem dJ7_ensureCapacityInternal_6 : decode cJ7_ensureCapacityInternal 6 = .ok (.getfield 22, 3) := dk_180 0 22 (dk_at dksJ7_ensureCapacityInternal_0 6 rfl rfl)
theorem dJ7_ensureCapacityInternal_9 : decode cJ7_ensureCapacityInternal 9 = .ok (.ishr, 1) := dk_122 (dk_at dksJ7_ensureCapacityInternal_0 9 rfl rfl)
theorem dJ7_ensureCapacityInternal_10 : decode cJ7_ensureCapacityInternal 10 = .ok (.istore_n 2, 1) := dk_61 (dk_at dksJ7_ensureCapacityInternal_0 10 rfl rfl)
theorem dJ7_ensureCapacityInternal_11 : decode cJ7_ensureCapacityInternal 11 = .ok (.iload_n 1, 1) := dk_27 (dk_at dksJ7_ensureCapacityInternal_0 11 rfl rfl)
theorem dJ7_ensureCapacityInternal_12 : decode cJ7_ensureCapacityInternal 12 = .ok (.iload_n 2, 1) := dk_28 (dk_at dksJ7_ensureCapacityInternal_0 12 rfl rfl)
theorem dJ7_ensureCapacityInternal_13 : decode cJ7_ensureCapacityInternal 13 = .ok (.isub, 1) := dk_100 (dk_at dksJ7_ensureCapacityInternal_0 13 rfl rfl)
theorem dJ7_ensureCapacityInternal_14 : decode cJ7_ensureCapacityInternal 14 = .ok (.ifCond .le 24, 3) := dk_158 0 24 (dk_at dksJ7_ensureCapacityInternal_0 14 rfl rfl)
theorem dJ7_ensureCapacityInternal_17 : decode cJ7_ensureCapacityInternal 17 = .ok (.aload_n 0, 1) := dk_42 (dk_at dksJ7_ensureCapacityInternal_0 17 rfl rfl)
theorem dJ7_ensureCapacityInternal_18 : decode cJ7_ensureCapacityInternal 18 = .ok (.aload_n 0, 1) := dk_42 (dk_at dksJ7_ensureCapacityInternal_0 18 rfl rfl)
theorem dJ7_ensureCapacityInternal_19 : decode cJ7_ensureCapacityInternal 19 = .ok (.getfield 15, 3) := dk_180 0 15 (dk_at dksJ7_ensureCapacityInternal_0 19 rfl rfl)
theorem dJ7_ensureCapacityInternal_22 : decode cJ7_ensureCapacityInternal 22 = .ok (.aload_n 0, 1) := dk_42 (dk_at dksJ7_ensureCapacityInternal_0 22 rfl rfl)
theorem dJ7_ensureCapacityInternal_23 : decode cJ7_ensureCapacityInternal 23 = .ok (.iload_n 1, 1) := dk_27 (dk_at dksJ7_ensureCapacityInternal_0 23 rfl rfl)
theorem dJ7_ensureCapacityInternal_24 : decode cJ7_ensureCapacityInternal 24 = .ok (.invokevirtual 104, 3) := dk_182 0 104 (dk_at dksJ7_ensureCapacityInternal_1 0 rfl rfl)
theorem dJ7_ensureCapacityInternal_27 : decode cJ7_ensureCapacityInternal 27 = .ok (.aload_n 0, 1) := dk_42 (dk_at dksJ7_ensureCapacityInternal_1 3 rfl rfl)
theorem dJ7_ensureCapacityInternal_28 : decode cJ7_ensureCapacityInternal 28 = .ok (.getfield 22, 3) := dk_180 0 22 (dk_at dksJ7_ensureCapacityInternal_1 4 rfl rfl)
theorem dJ7_ensureCapacityInternal_31 : decode cJ7_ensureCapacityInternal 31 = .ok (.ishl, 1) := dk_120 (dk_at dksJ7_ensureCapacityInternal_1 7 rfl rfl)
theorem dJ7_ensureCapacityInternal_32 : decode cJ7_ensureCapacityInternal 32 = .ok (.invokestatic 108, 3) := dk_184 0 108 (dk_at dksJ7_ensureCapacityInternal_1 8 rfl rfl)
theorem dJ7_ensureCapacityInternal_35 : decode cJ7_ensureCapacityInternal 35 = .ok (.putfield 15, 3) := dk_181 0 15 (dk_at dksJ7_ensureCapacityInternal_1 11 rfl rfl)
theorem dJ7_ensureCapacityInternal_38 : decode cJ7_ensureCapacityInternal 38 = .ok (.return_, 1) := dk_177 (dk_at dksJ7_ensureCapacityInternal_1 14 rfl rfl)
abbrev cJ7_isLatin1 : ByteArray := prog_6_method_68_code
def yJ7_isLatin1 : MethodName := ⟨RJ7, "isLatin1", "()Z"⟩
def dkwJ7_isLatin1_0 : List UInt8 := [178, 0, 18, 153, 0, 14, 42, 180, 0, 22, 154, 0, 7, 4, 167, 0, 4, 3, 172]
abbrev dktJ7_isLatin1_0 : List UInt8 := dkwJ7_isLatin1_0 ++ []
theorem dksJ7_isLatin1_0 : cJ7_isLatin1.data.toList.drop 0 = dktJ7_isLatin1_0 := by decide +kernel
theorem dJ7_isLatin1_0 : decode cJ7_isLatin1 0 = .ok (.getstatic 18, 3) := dk_178 0 18 (dk_at dksJ7_isLatin1_0 0 rfl rfl)
theorem dJ7_isLatin1_3 : decode cJ7_isLatin1 3 = .ok (.ifCond .eq 14, 3) := dk_153 0 14 (dk_at dksJ7_isLatin1_0 3 rfl rfl)
theorem dJ7_isLatin1_6 : decode cJ7_isLatin1 6 = .ok (.aload_n 0, 1) := dk_42 (dk_at dksJ7_isLatin1_0 6 rfl rfl)
theorem dJ7_isLatin1_7 : decode cJ7_isLatin1 7 = .ok (.getfield 22, 3) := dk_180 0 22 (dk_at dksJ7_isLatin1_0 7 rfl rfl)
theorem dJ7_isLatin1_10 : decode cJ7_isLatin1 10 = .ok (.ifCond .ne 7, 3) := dk_154 0 7 (dk_at dksJ7_isLatin1_0 10 rfl rfl)
theorem dJ7_isLatin1_13 : decode cJ7_isLatin1 13 = .ok (.iconst 1, 1) := dk_4 (dk_at dksJ7_isLatin1_0 13 rfl rfl)
theorem dJ7_isLatin1_14 : decode cJ7_isLatin1 14 = .ok (.goto 4, 3) := dk_167 0 4 (dk_at dksJ7_isLatin1_0 14 rfl rfl)
theorem dJ7_isLatin1_17 : decode cJ7_isLatin1 17 = .ok (.iconst 0, 1) := dk_3 (dk_at dksJ7_isLatin1_0 17 rfl rfl)
theorem dJ7_isLatin1_18 : decode cJ7_isLatin1 18 = .ok (.ireturn, 1) := dk_172 (dk_at dksJ7_isLatin1_0 18 rfl rfl)
abbrev cJ7_putStringAt : ByteArray := prog_6_method_73_code
def yJ7_putStringAt : MethodName := ⟨RJ7, "putStringAt", "(ILjava/lang/String;)V"⟩
def dkwJ7_putStringAt_0 : List UInt8 := [42, 44, 182, 1, 141, 44, 42, 180, 0, 15, 27, 42, 180, 0, 22, 182, 1, 143, 177]
abbrev dktJ7_putStringAt_0 : List UInt8 := dkwJ7_putStringAt_0 ++ []
theorem dksJ7_putStringAt_0 : cJ7_putStringAt.data.toList.drop 0 = dktJ7_putStringAt_0 := by decide +kernel
theorem dJ7_putStringAt_0 : decode cJ7_putStringAt 0 = .ok (.aload_n 0, 1) := dk_42 (dk_at dksJ7_putStringAt_0 0 rfl rfl)
theorem dJ7_putStringAt_1 : decode cJ7_putStringAt 1 = .ok (.aload_n 2, 1) := dk_44 (dk_at dksJ7_putStringAt_0 1 rfl rfl)
theorem dJ7_putStringAt_2 : decode cJ7_putStringAt 2 = .ok (.invokevirtual 397, 3) := dk_182 1 141 (dk_at dksJ7_putStringAt_0 2 rfl rfl)
theorem dJ7_putStringAt_5 : decode cJ7_putStringAt 5 = .ok (.aload_n 2, 1) := dk_44 (dk_at dksJ7_putStringAt_0 5 rfl rfl)
theorem dJ7_putStringAt_6 : decode cJ7_putStringAt 6 = .ok (.aload_n 0, 1) := dk_42 (dk_at dksJ7_putStringAt_0 6 rfl rfl)
theorem dJ7_putStringAt_7 : decode cJ7_putStringAt 7 = .ok (.getfield 15, 3) := dk_180 0 15 (dk_at dksJ7_putStringAt_0 7 rfl rfl)
theorem dJ7_putStringAt_10 : decode cJ7_putStringAt 10 = .ok (.iload_n 1, 1) := dk_27 (dk_at dksJ7_putStringAt_0 10 rfl rfl)
theorem dJ7_putStringAt_11 : decode cJ7_putStringAt 11 = .ok (.aload_n 0, 1) := dk_42 (dk_at dksJ7_putStringAt_0 11 rfl rfl)
theorem dJ7_putStringAt_12 : decode cJ7_putStringAt 12 = .ok (.getfield 22, 3) := dk_180 0 22 (dk_at dksJ7_putStringAt_0 12 rfl rfl)
theorem dJ7_putStringAt_15 : decode cJ7_putStringAt 15 = .ok (.invokevirtual 399, 3) := dk_182 1 143 (dk_at dksJ7_putStringAt_0 15 rfl rfl)
theorem dJ7_putStringAt_18 : decode cJ7_putStringAt 18 = .ok (.return_, 1) := dk_177 (dk_at dksJ7_putStringAt_0 18 rfl rfl)
abbrev cJ7_inflateIfNeededFor : ByteArray := prog_6_method_71_code
def yJ7_inflateIfNeededFor : MethodName := ⟨RJ7, "inflateIfNeededFor", "(Ljava/lang/String;)V"⟩
def dkwJ7_inflateIfNeededFor_0 : List UInt8 := [178, 0, 18, 153, 0, 18, 42, 180, 0, 22, 43, 182, 0, 40, 159, 0, 7, 42, 182, 0, 195, 177]
abbrev dktJ7_inflateIfNeededFor_0 : List UInt8 := dkwJ7_inflateIfNeededFor_0 ++ []
theorem dksJ7_inflateIfNeededFor_0 : cJ7_inflateIfNeededFor.data.toList.drop 0 = dktJ7_inflateIfNeededFor_0 := by decide +kernel
theorem dJ7_inflateIfNeededFor_0 : decode cJ7_inflateIfNeededFor 0 = .ok (.getstatic 18, 3) := dk_178 0 18 (dk_at dksJ7_inflateIfNeededFor_0 0 rfl rfl)
theorem dJ7_inflateIfNeededFor_3 : decode cJ7_inflateIfNeededFor 3 = .ok (.ifCond .eq 18, 3) := dk_153 0 18 (dk_at dksJ7_inflateIfNeededFor_0 3 rfl rfl)
theorem dJ7_inflateIfNeededFor_6 : decode cJ7_inflateIfNeededFor 6 = .ok (.aload_n 0, 1) := dk_42 (dk_at dksJ7_inflateIfNeededFor_0 6 rfl rfl)
theorem dJ7_inflateIfNeededFor_7 : decode cJ7_inflateIfNeededFor 7 = .ok (.getfield 22, 3) := dk_180 0 22 (dk_at dksJ7_inflateIfNeededFor_0 7 rfl rfl)
theorem dJ7_inflateIfNeededFor_10 : decode cJ7_inflateIfNeededFor 10 = .ok (.aload_n 1, 1) := dk_43 (dk_at dksJ7_inflateIfNeededFor_0 10 rfl rfl)
theorem dJ7_inflateIfNeededFor_11 : decode cJ7_inflateIfNeededFor 11 = .ok (.invokevirtual 40, 3) := dk_182 0 40 (dk_at dksJ7_inflateIfNeededFor_0 11 rfl rfl)
theorem dJ7_inflateIfNeededFor_14 : decode cJ7_inflateIfNeededFor 14 = .ok (.if_icmp .eq 7, 3) := dk_159 0 7 (dk_at dksJ7_inflateIfNeededFor_0 14 rfl rfl)
theorem dJ7_inflateIfNeededFor_17 : decode cJ7_inflateIfNeededFor 17 = .ok (.aload_n 0, 1) := dk_42 (dk_at dksJ7_inflateIfNeededFor_0 17 rfl rfl)
theorem dJ7_inflateIfNeededFor_18 : decode cJ7_inflateIfNeededFor 18 = .ok (.invokevirtual 195, 3) := dk_182 0 195 (dk_at dksJ7_inflateIfNeededFor_0 18 rfl rfl)
theorem dJ7_inflateIfNeededFor_21 : decode cJ7_inflateIfNeededFor 21 = .ok (.return_, 1) := dk_177 (dk_at dksJ7_inflateIfNeededFor_0 21 rfl rfl)
abbrev cJ7_length : ByteArray := prog_6_method_6_code
def yJ7_length : MethodName := ⟨RJ7, "length", "()I"⟩
theorem dJ7_length_0 : decode cJ7_length 0 = .ok (.aload_n 0, 1) := by decide +kernel
theorem dJ7_length_1 : decode cJ7_length 1 = .ok (.getfield 79, 3) := by decide +kernel
theorem dJ7_length_4 : decode cJ7_length 4 = .ok (.ireturn, 1) := by decide +kernel
abbrev cJ7_getValue : ByteArray := prog_6_method_64_code
def yJ7_getValue : MethodName := ⟨RJ7, "getValue", "()[B"⟩
theorem dJ7_getValue_0 : decode cJ7_getValue 0 = .ok (.aload_n 0, 1) := by decide +kernel
theorem dJ7_getValue_1 : decode cJ7_getValue 1 = .ok (.getfield 15, 3) := by decide +kernel
theorem dJ7_getValue_4 : decode cJ7_getValue 4 = .ok (.areturn, 1) := by decide +kernel
theorem q13 : (Jvm.Cond.initialized "java/lang/AbstractStringBuilder") ∈ lw_all := lw_g (lw_at lw_m1 12 rfl) rfl
theorem q255 : (Jvm.Cond.instanceMethod ({ cls := "java/lang/AbstractStringBuilder", name := "<init>", desc := "(I)V" } : Jvm.MethodName)) ∈ lw_all := lw_g (lw_at lw_m2 14 rfl) rfl
theorem q256 : (Jvm.Cond.code ({ cls := "java/lang/AbstractStringBuilder", name := "<init>", desc := "(I)V" } : Jvm.MethodName) prog_6_method_2_code (2 : Nat) (Option.none : Option Jvm.ClassFile.FieldType)) ∈ lw_all := lw_g (lw_at lw_m2 15 rfl) rfl
theorem q257 : (Jvm.Cond.methodLink "java/lang/AbstractStringBuilder" (3 : Nat) ({ cls := "java/lang/Object", name := "<init>", desc := "()V" } : Jvm.MethodName)) ∈ lw_all := lw_g (lw_at lw_m2 16 rfl) rfl
theorem q258 : (Jvm.Cond.fieldLink "java/lang/AbstractStringBuilder" (18 : Nat) "java/lang/String" "COMPACT_STRINGS" "Z") ∈ lw_all := lw_g (lw_at lw_m2 17 rfl) rfl
theorem q259 : (Jvm.Cond.methodLink "java/lang/AbstractStringBuilder" (26 : Nat) ({ cls := "java/lang/StringUTF16", name := "newBytesFor", desc := "(I)[B" } : Jvm.MethodName)) ∈ lw_all := lw_g (lw_at lw_m2 18 rfl) rfl
theorem q260 : (Jvm.Cond.fieldLink "java/lang/AbstractStringBuilder" (15 : Nat) "java/lang/AbstractStringBuilder" "value" "[B") ∈ lw_all := lw_g (lw_at lw_m2 19 rfl) rfl
theorem q261 : (Jvm.Cond.fieldLink "java/lang/AbstractStringBuilder" (22 : Nat) "java/lang/AbstractStringBuilder" "coder" "B") ∈ lw_all := lw_g (lw_at lw_m2 20 rfl) rfl
theorem q262 : (Jvm.Cond.fieldLink "java/lang/AbstractStringBuilder" (73 : Nat) "java/lang/AbstractStringBuilder" "maybeLatin1" "Z") ∈ lw_all := lw_g (lw_at lw_m2 21 rfl) rfl
theorem q264 : (Jvm.Cond.fieldLink "java/lang/AbstractStringBuilder" (79 : Nat) "java/lang/AbstractStringBuilder" "count" "I") ∈ lw_all := lw_g (lw_at lw_m2 23 rfl) rfl
theorem q266 : (Jvm.Cond.soleField "java/lang/AbstractStringBuilder" "value") ∈ lw_all := lw_g (lw_at lw_m2 25 rfl) rfl
theorem q268 : (Jvm.Cond.soleField "java/lang/AbstractStringBuilder" "coder") ∈ lw_all := lw_g (lw_at lw_m2 27 rfl) rfl
theorem q270 : (Jvm.Cond.soleField "java/lang/AbstractStringBuilder" "maybeLatin1") ∈ lw_all := lw_g (lw_at lw_m2 29 rfl) rfl
theorem q272 : (Jvm.Cond.soleField "java/lang/AbstractStringBuilder" "count") ∈ lw_all := lw_g (lw_at lw_m2 31 rfl) rfl
theorem q279 : (Jvm.Cond.instanceMethod ({ cls := "java/lang/AbstractStringBuilder", name := "append", desc := "(Ljava/lang/String;)Ljava/lang/AbstractStringBuilder;" } : Jvm.MethodName)) ∈ lw_all := lw_g (lw_at lw_m2 38 rfl) rfl
theorem q280 : (Jvm.Cond.code ({ cls := "java/lang/AbstractStringBuilder", name := "append", desc := "(Ljava/lang/String;)Ljava/lang/AbstractStringBuilder;" } : Jvm.MethodName) prog_6_method_22_code (3 : Nat) (Option.some (Jvm.ClassFile.FieldType.object "java/lang/AbstractStringBuilder"))) ∈ lw_all := lw_g (lw_at lw_m2 39 rfl) rfl
theorem q281 : (Jvm.Cond.methodLink "java/lang/AbstractStringBuilder" (204 : Nat) ({ cls := "java/lang/AbstractStringBuilder", name := "appendNull", desc := "()Ljava/lang/AbstractStringBuilder;" } : Jvm.MethodName)) ∈ lw_all := lw_g (lw_at lw_m2 40 rfl) rfl
theorem q282 : (Jvm.Cond.privateMethod ({ cls := "java/lang/AbstractStringBuilder", name := "appendNull", desc := "()Ljava/lang/AbstractStringBuilder;" } : Jvm.MethodName)) ∈ lw_tbl := lw_at lw_m2 41 rfl
theorem q283 : (Jvm.Cond.instanceMethod ({ cls := "java/lang/AbstractStringBuilder", name := "appendNull", desc := "()Ljava/lang/AbstractStringBuilder;" } : Jvm.MethodName)) ∈ lw_all := lw_g (lw_at lw_m2 42 rfl) rfl
theorem q284 : (Jvm.Cond.code ({ cls := "java/lang/AbstractStringBuilder", name := "appendNull", desc := "()Ljava/lang/AbstractStringBuilder;" } : Jvm.MethodName) prog_6_method_26_code (3 : Nat) (Option.some (Jvm.ClassFile.FieldType.object "java/lang/AbstractStringBuilder"))) ∈ lw_all := lw_g (lw_at lw_m2 43 rfl) rfl
theorem q285 : (Jvm.Cond.methodLink "java/lang/AbstractStringBuilder" (100 : Nat) ({ cls := "java/lang/AbstractStringBuilder", name := "ensureCapacityInternal", desc := "(I)V" } : Jvm.MethodName)) ∈ lw_all := lw_g (lw_at lw_m2 44 rfl) rfl
theorem q286 : (Jvm.Cond.privateMethod ({ cls := "java/lang/AbstractStringBuilder", name := "ensureCapacityInternal", desc := "(I)V" } : Jvm.MethodName)) ∈ lw_tbl := lw_at lw_m2 45 rfl
theorem q287 : (Jvm.Cond.instanceMethod ({ cls := "java/lang/AbstractStringBuilder", name := "ensureCapacityInternal", desc := "(I)V" } : Jvm.MethodName)) ∈ lw_all := lw_g (lw_at lw_m2 46 rfl) rfl
theorem q288 : (Jvm.Cond.code ({ cls := "java/lang/AbstractStringBuilder", name := "ensureCapacityInternal", desc := "(I)V" } : Jvm.MethodName) prog_6_method_9_code (3 : Nat) (Option.none : Option Jvm.ClassFile.FieldType)) ∈ lw_all := lw_g (lw_at lw_m2 47 rfl) rfl
theorem q289 : (Jvm.Cond.methodLink "java/lang/AbstractStringBuilder" (104 : Nat) ({ cls := "java/lang/AbstractStringBuilder", name := "newCapacity", desc := "(I)I" } : Jvm.MethodName)) ∈ lw_all := lw_g (lw_at lw_m2 48 rfl) rfl
theorem q290 : (Jvm.Cond.privateMethod ({ cls := "java/lang/AbstractStringBuilder", name := "newCapacity", desc := "(I)I" } : Jvm.MethodName)) ∈ lw_tbl := lw_at lw_m2 49 rfl
theorem q291 : (Jvm.Cond.instanceMethod ({ cls := "java/lang/AbstractStringBuilder", name := "newCapacity", desc := "(I)I" } : Jvm.MethodName)) ∈ lw_all := lw_g (lw_at lw_m2 50 rfl) rfl
theorem q292 : (Jvm.Cond.code ({ cls := "java/lang/AbstractStringBuilder", name := "newCapacity", desc := "(I)I" } : Jvm.MethodName) prog_6_method_10_code (6 : Nat) (Option.some Jvm.ClassFile.FieldType.int)) ∈ lw_all := lw_g (lw_at lw_m2 51 rfl) rfl
theorem q293 : (Jvm.Cond.methodLink "java/lang/AbstractStringBuilder" (114 : Nat) ({ cls := "jdk/internal/util/ArraysSupport", name := "newLength", desc := "(III)I" } : Jvm.MethodName)) ∈ lw_all := lw_g (lw_at lw_m2 52 rfl) rfl
theorem q303 : (Jvm.Cond.constant "java/lang/AbstractStringBuilder" (39 : Nat) (2147483647 : Int32)) ∈ lw_all := lw_g (lw_at lw_m2 62 rfl) rfl
theorem q304 : (Jvm.Cond.methodLink "java/lang/AbstractStringBuilder" (108 : Nat) ({ cls := "java/util/Arrays", name := "copyOf", desc := "([BI)[B" } : Jvm.MethodName)) ∈ lw_all := lw_g (lw_at lw_m2 63 rfl) rfl
theorem q320 : (Jvm.Cond.methodLink "java/lang/AbstractStringBuilder" (83 : Nat) ({ cls := "java/lang/AbstractStringBuilder", name := "isLatin1", desc := "()Z" } : Jvm.MethodName)) ∈ lw_all := lw_g (lw_at lw_m2 79 rfl) rfl
theorem q321 : (Jvm.Cond.instanceMethod ({ cls := "java/lang/AbstractStringBuilder", name := "isLatin1", desc := "()Z" } : Jvm.MethodName)) ∈ lw_all := lw_g (lw_at lw_m2 80 rfl) rfl
theorem q322 : (Jvm.Cond.sameMethod "java/lang/AbstractStringBuilder" "java/lang/AbstractStringBuilder" "isLatin1" "()Z") ∈ lw_all := lw_g (lw_at lw_m2 81 rfl) rfl
theorem q324 : (Jvm.Cond.code ({ cls := "java/lang/AbstractStringBuilder", name := "isLatin1", desc := "()Z" } : Jvm.MethodName) prog_6_method_68_code (1 : Nat) (Option.some Jvm.ClassFile.FieldType.boolean)) ∈ lw_all := lw_g (lw_at lw_m2 83 rfl) rfl
theorem q325 : (Jvm.Cond.methodLink "java/lang/AbstractStringBuilder" (226 : Nat) ({ cls := "java/lang/StringUTF16", name := "putCharsAt", desc := "([BICCCC)I" } : Jvm.MethodName)) ∈ lw_all := lw_g (lw_at lw_m2 84 rfl) rfl
theorem q337 : (Jvm.Cond.methodLink "java/lang/AbstractStringBuilder" (32 : Nat) ({ cls := "java/lang/String", name := "length", desc := "()I" } : Jvm.MethodName)) ∈ lw_all := lw_g (lw_at lw_m2 96 rfl) rfl
theorem q338 : (Jvm.Cond.methodLink "java/lang/AbstractStringBuilder" (208 : Nat) ({ cls := "java/lang/AbstractStringBuilder", name := "putStringAt", desc := "(ILjava/lang/String;)V" } : Jvm.MethodName)) ∈ lw_all := lw_g (lw_at lw_m2 97 rfl) rfl
theorem q339 : (Jvm.Cond.privateMethod ({ cls := "java/lang/AbstractStringBuilder", name := "putStringAt", desc := "(ILjava/lang/String;)V" } : Jvm.MethodName)) ∈ lw_tbl := lw_at lw_m2 98 rfl
theorem q340 : (Jvm.Cond.instanceMethod ({ cls := "java/lang/AbstractStringBuilder", name := "putStringAt", desc := "(ILjava/lang/String;)V" } : Jvm.MethodName)) ∈ lw_all := lw_g (lw_at lw_m2 99 rfl) rfl
theorem q341 : (Jvm.Cond.code ({ cls := "java/lang/AbstractStringBuilder", name := "putStringAt", desc := "(ILjava/lang/String;)V" } : Jvm.MethodName) prog_6_method_73_code (3 : Nat) (Option.none : Option Jvm.ClassFile.FieldType)) ∈ lw_all := lw_g (lw_at lw_m2 100 rfl) rfl
theorem q342 : (Jvm.Cond.methodLink "java/lang/AbstractStringBuilder" (397 : Nat) ({ cls := "java/lang/AbstractStringBuilder", name := "inflateIfNeededFor", desc := "(Ljava/lang/String;)V" } : Jvm.MethodName)) ∈ lw_all := lw_g (lw_at lw_m2 101 rfl) rfl
theorem q343 : (Jvm.Cond.privateMethod ({ cls := "java/lang/AbstractStringBuilder", name := "inflateIfNeededFor", desc := "(Ljava/lang/String;)V" } : Jvm.MethodName)) ∈ lw_tbl := lw_at lw_m2 102 rfl
theorem q344 : (Jvm.Cond.instanceMethod ({ cls := "java/lang/AbstractStringBuilder", name := "inflateIfNeededFor", desc := "(Ljava/lang/String;)V" } : Jvm.MethodName)) ∈ lw_all := lw_g (lw_at lw_m2 103 rfl) rfl
theorem q345 : (Jvm.Cond.code ({ cls := "java/lang/AbstractStringBuilder", name := "inflateIfNeededFor", desc := "(Ljava/lang/String;)V" } : Jvm.MethodName) prog_6_method_71_code (2 : Nat) (Option.none : Option Jvm.ClassFile.FieldType)) ∈ lw_all := lw_g (lw_at lw_m2 104 rfl) rfl
theorem q346 : (Jvm.Cond.methodLink "java/lang/AbstractStringBuilder" (40 : Nat) ({ cls := "java/lang/String", name := "coder", desc := "()B" } : Jvm.MethodName)) ∈ lw_all := lw_g (lw_at lw_m2 105 rfl) rfl
theorem q347 : (Jvm.Cond.methodLink "java/lang/AbstractStringBuilder" (195 : Nat) ({ cls := "java/lang/AbstractStringBuilder", name := "inflate", desc := "()V" } : Jvm.MethodName)) ∈ lw_all := lw_g (lw_at lw_m2 106 rfl) rfl
theorem q348 : (Jvm.Cond.privateMethod ({ cls := "java/lang/AbstractStringBuilder", name := "inflate", desc := "()V" } : Jvm.MethodName)) ∈ lw_tbl := lw_at lw_m2 107 rfl
theorem q349 : (Jvm.Cond.instanceMethod ({ cls := "java/lang/AbstractStringBuilder", name := "inflate", desc := "()V" } : Jvm.MethodName)) ∈ lw_all := lw_g (lw_at lw_m2 108 rfl) rfl
theorem q350 : (Jvm.Cond.code ({ cls := "java/lang/AbstractStringBuilder", name := "inflate", desc := "()V" } : Jvm.MethodName) prog_6_method_11_code (2 : Nat) (Option.none : Option Jvm.ClassFile.FieldType)) ∈ lw_all := lw_g (lw_at lw_m2 109 rfl) rfl
theorem q351 : (Jvm.Cond.methodLink "java/lang/AbstractStringBuilder" (125 : Nat) ({ cls := "java/lang/StringLatin1", name := "inflate", desc := "([BI[BII)V" } : Jvm.MethodName)) ∈ lw_all := lw_g (lw_at lw_m2 110 rfl) rfl
theorem q357 : (Jvm.Cond.methodLink "java/lang/AbstractStringBuilder" (399 : Nat) ({ cls := "java/lang/String", name := "getBytes", desc := "([BIB)V" } : Jvm.MethodName)) ∈ lw_all := lw_g (lw_at lw_m2 116 rfl) rfl
theorem q390 : (Jvm.Cond.instanceMethod ({ cls := "java/lang/AbstractStringBuilder", name := "length", desc := "()I" } : Jvm.MethodName)) ∈ lw_all := lw_g (lw_at lw_m2 149 rfl) rfl
theorem q391 : (Jvm.Cond.code ({ cls := "java/lang/AbstractStringBuilder", name := "length", desc := "()I" } : Jvm.MethodName) prog_6_method_6_code (1 : Nat) (Option.some Jvm.ClassFile.FieldType.int)) ∈ lw_all := lw_g (lw_at lw_m2 150 rfl) rfl
theorem q427 : (Jvm.Cond.instanceMethod ({ cls := "java/lang/AbstractStringBuilder", name := "charAt", desc := "(I)C" } : Jvm.MethodName)) ∈ lw_all := lw_g (lw_at lw_m2 186 rfl) rfl
theorem q428 : (Jvm.Cond.code ({ cls := "java/lang/AbstractStringBuilder", name := "charAt", desc := "(I)C" } : Jvm.MethodName) prog_6_method_14_code (5 : Nat) (Option.some Jvm.ClassFile.FieldType.char)) ∈ lw_all := lw_g (lw_at lw_m2 187 rfl) rfl
theorem q429 : (Jvm.Cond.methodLink "java/lang/AbstractStringBuilder" (138 : Nat) ({ cls := "java/lang/Math", name := "min", desc := "(II)I" } : Jvm.MethodName)) ∈ lw_all := lw_g (lw_at lw_m2 188 rfl) rfl
theorem q430 : (Jvm.Cond.methodLink "java/lang/AbstractStringBuilder" (144 : Nat) ({ cls := "java/lang/String", name := "checkIndex", desc := "(II)V" } : Jvm.MethodName)) ∈ lw_all := lw_g (lw_at lw_m2 189 rfl) rfl
theorem q431 : (Jvm.Cond.methodLink "java/lang/AbstractStringBuilder" (148 : Nat) ({ cls := "java/lang/StringUTF16", name := "getChar", desc := "([BI)C" } : Jvm.MethodName)) ∈ lw_all := lw_g (lw_at lw_m2 190 rfl) rfl
theorem q448 : (Jvm.Cond.instanceMethod ({ cls := "java/lang/AbstractStringBuilder", name := "capacity", desc := "()I" } : Jvm.MethodName)) ∈ lw_all := lw_g (lw_at lw_m2 207 rfl) rfl
theorem q449 : (Jvm.Cond.code ({ cls := "java/lang/AbstractStringBuilder", name := "capacity", desc := "()I" } : Jvm.MethodName) prog_6_method_7_code (1 : Nat) (Option.some Jvm.ClassFile.FieldType.int)) ∈ lw_all := lw_g (lw_at lw_m2 208 rfl) rfl
theorem q455 : (Jvm.Cond.instanceMethod ({ cls := "java/lang/AbstractStringBuilder", name := "setLength", desc := "(I)V" } : Jvm.MethodName)) ∈ lw_all := lw_g (lw_at lw_m2 214 rfl) rfl
theorem q456 : (Jvm.Cond.code ({ cls := "java/lang/AbstractStringBuilder", name := "setLength", desc := "(I)V" } : Jvm.MethodName) prog_6_method_13_code (2 : Nat) (Option.none : Option Jvm.ClassFile.FieldType)) ∈ lw_all := lw_g (lw_at lw_m2 215 rfl) rfl
theorem q457 : (Jvm.Cond.methodLink "java/lang/AbstractStringBuilder" (133 : Nat) ({ cls := "java/lang/StringLatin1", name := "fillNull", desc := "([BII)V" } : Jvm.MethodName)) ∈ lw_all := lw_g (lw_at lw_m2 216 rfl) rfl
theorem q466 : (Jvm.Cond.methodLink "java/lang/AbstractStringBuilder" (137 : Nat) ({ cls := "java/lang/StringUTF16", name := "fillNull", desc := "([BII)V" } : Jvm.MethodName)) ∈ lw_all := lw_g (lw_at lw_m2 225 rfl) rfl
theorem q484 : (Jvm.Cond.instanceMethod ({ cls := "java/lang/AbstractStringBuilder", name := "append", desc := "(C)Ljava/lang/AbstractStringBuilder;" } : Jvm.MethodName)) ∈ lw_all := lw_g (lw_at lw_m3 3 rfl) rfl
theorem q485 : (Jvm.Cond.code ({ cls := "java/lang/AbstractStringBuilder", name := "append", desc := "(C)Ljava/lang/AbstractStringBuilder;" } : Jvm.MethodName) prog_6_method_31_code (2 : Nat) (Option.some (Jvm.ClassFile.FieldType.object "java/lang/AbstractStringBuilder"))) ∈ lw_all := lw_g (lw_at lw_m3 4 rfl) rfl
theorem q486 : (Jvm.Cond.methodLink "java/lang/AbstractStringBuilder" (191 : Nat) ({ cls := "java/lang/StringLatin1", name := "canEncode", desc := "(C)Z" } : Jvm.MethodName)) ∈ lw_all := lw_g (lw_at lw_m3 5 rfl) rfl
theorem q489 : (Jvm.Cond.methodLink "java/lang/AbstractStringBuilder" (197 : Nat) ({ cls := "java/lang/StringUTF16", name := "putCharSB", desc := "([BII)V" } : Jvm.MethodName)) ∈ lw_all := lw_g (lw_at lw_m3 8 rfl) rfl
theorem q504 : (Jvm.Cond.instanceMethod ({ cls := "java/lang/AbstractStringBuilder", name := "getValue", desc := "()[B" } : Jvm.MethodName)) ∈ lw_all := lw_g (lw_at lw_m3 23 rfl) rfl
theorem q505 : (Jvm.Cond.sameMethod "java/lang/AbstractStringBuilder" "java/lang/AbstractStringBuilder" "getValue" "()[B") ∈ lw_all := lw_g (lw_at lw_m3 24 rfl) rfl
theorem q507 : (Jvm.Cond.code ({ cls := "java/lang/AbstractStringBuilder", name := "getValue", desc := "()[B" } : Jvm.MethodName) prog_6_method_64_code (1 : Nat) (Option.some (Jvm.ClassFile.FieldType.array Jvm.ClassFile.FieldType.byte))) ∈ lw_all := lw_g (lw_at lw_m3 26 rfl) rfl
theorem q528 : (Jvm.Cond.instanceMethod ({ cls := "java/lang/AbstractStringBuilder", name := "setCharAt", desc := "(IC)V" } : Jvm.MethodName)) ∈ lw_all := lw_g (lw_at lw_m3 47 rfl) rfl
theorem q529 : (Jvm.Cond.code ({ cls := "java/lang/AbstractStringBuilder", name := "setCharAt", desc := "(IC)V" } : Jvm.MethodName) prog_6_method_20_code (3 : Nat) (Option.none : Option Jvm.ClassFile.FieldType)) ∈ lw_all := lw_g (lw_at lw_m3 48 rfl) rfl
theorem q580 : (Jvm.Cond.sameMethod "java/lang/AbstractStringBuilder" "java/lang/AbstractStringBuilder" "append" "(Ljava/lang/String;)Ljava/lang/AbstractStringBuilder;") ∈ lw_all := lw_g (lw_at lw_m3 99 rfl) rfl
theorem q581 : (Jvm.Cond.sameMethod "java/lang/AbstractStringBuilder" "java/lang/AbstractStringBuilder" "appendNull" "()Ljava/lang/AbstractStringBuilder;") ∈ lw_all := lw_g (lw_at lw_m3 100 rfl) rfl
theorem q582 : (Jvm.Cond.sameMethod "java/lang/AbstractStringBuilder" "java/lang/AbstractStringBuilder" "ensureCapacityInternal" "(I)V") ∈ lw_all := lw_g (lw_at lw_m3 101 rfl) rfl
theorem q583 : (Jvm.Cond.sameMethod "java/lang/AbstractStringBuilder" "java/lang/AbstractStringBuilder" "newCapacity" "(I)I") ∈ lw_all := lw_g (lw_at lw_m3 102 rfl) rfl
theorem q584 : (Jvm.Cond.sameMethod "java/lang/AbstractStringBuilder" "java/lang/AbstractStringBuilder" "putStringAt" "(ILjava/lang/String;)V") ∈ lw_all := lw_g (lw_at lw_m3 103 rfl) rfl
theorem q585 : (Jvm.Cond.sameMethod "java/lang/AbstractStringBuilder" "java/lang/AbstractStringBuilder" "inflateIfNeededFor" "(Ljava/lang/String;)V") ∈ lw_all := lw_g (lw_at lw_m3 104 rfl) rfl
theorem q586 : (Jvm.Cond.sameMethod "java/lang/AbstractStringBuilder" "java/lang/AbstractStringBuilder" "inflate" "()V") ∈ lw_all := lw_g (lw_at lw_m3 105 rfl) rfl
theorem q587 : (Jvm.Cond.sameMethod "java/lang/AbstractStringBuilder" "java/lang/AbstractStringBuilder" "length" "()I") ∈ lw_all := lw_g (lw_at lw_m3 106 rfl) rfl
theorem q588 : (Jvm.Cond.sameMethod "java/lang/AbstractStringBuilder" "java/lang/AbstractStringBuilder" "charAt" "(I)C") ∈ lw_all := lw_g (lw_at lw_m3 107 rfl) rfl
theorem q589 : (Jvm.Cond.sameMethod "java/lang/AbstractStringBuilder" "java/lang/AbstractStringBuilder" "capacity" "()I") ∈ lw_all := lw_g (lw_at lw_m3 108 rfl) rfl
theorem q590 : (Jvm.Cond.sameMethod "java/lang/AbstractStringBuilder" "java/lang/AbstractStringBuilder" "setLength" "(I)V") ∈ lw_all := lw_g (lw_at lw_m3 109 rfl) rfl
theorem q592 : (Jvm.Cond.sameMethod "java/lang/AbstractStringBuilder" "java/lang/AbstractStringBuilder" "append" "(C)Ljava/lang/AbstractStringBuilder;") ∈ lw_all := lw_g (lw_at lw_m3 111 rfl) rfl
theorem q594 : (Jvm.Cond.sameMethod "java/lang/AbstractStringBuilder" "java/lang/AbstractStringBuilder" "setCharAt" "(IC)V") ∈ lw_all := lw_g (lw_at lw_m3 113 rfl) rfl
def RJ8 : String := "java/lang/StringBuilder"
def TJ8 : u_T := fun k => match k with
  | 0 => ("java/lang/AbstractStringBuilder", "value", "[B", false)
  | 1 => ("java/lang/AbstractStringBuilder", "coder", "B", false)
  | 2 => ("java/lang/AbstractStringBuilder", "maybeLatin1", "Z", false)
  | _ => ("java/lang/AbstractStringBuilder", "count", "I", false)
def tyJ8 : Nat → FieldType := fun k => match k with
  | 0 => .array .byte
  | 1 => .byte
  | 2 => .boolean
  | _ => .int
abbrev wsJ80 : List Cond := u_ws RJ8 TJ8 4
theorem nmJ8 : ∀ a, a < 4 → ∀ b, b < 4 → a ≠ b → (TJ8 a).2.1 ≠ (TJ8 b).2.1 := by decide +kernel
theorem tyJ8_ok : ∀ k, k < 4 → parseFieldDescriptor (TJ8 k).2.2.1 = some (tyJ8 k) := by decide +kernel
abbrev cJ8_init : ByteArray := prog_14_method_2_code
def yJ8_init : MethodName := ⟨RJ8, "<init>", "(I)V"⟩
def dkwJ8_init_0 : List UInt8 := [42, 27, 183, 0, 1, 177]
abbrev dktJ8_init_0 : List UInt8 := dkwJ8_init_0 ++ []
theorem dksJ8_init_0 : cJ8_init.data.toList.drop 0 = dktJ8_init_0 := by decide +kernel
theorem dJ8_init_0 : decode cJ8_init 0 = .ok (.aload_n 0, 1) := dk_42 (dk_at dksJ8_init_0 0 rfl rfl)
theorem dJ8_init_1 : decode cJ8_init 1 = .ok (.iload_n 1, 1) := dk_27 (dk_at dksJ8_init_0 1 rfl rfl)
theorem dJ8_init_2 : decode cJ8_init 2 = .ok (.invokespecial 1, 3) := dk_183 0 1 (dk_at dksJ8_init_0 2 rfl rfl)
theorem dJ8_init_5 : decode cJ8_init 5 = .ok (.return_, 1) := dk_177 (dk_at dksJ8_init_0 5 rfl rfl)
abbrev cJ8_append : ByteArray := prog_14_method_7_code
def yJ8_append : MethodName := ⟨RJ8, "append", "(Ljava/lang/String;)Ljava/lang/StringBuilder;"⟩
def dkwJ8_append_0 : List UInt8 := [42, 43, 183, 0, 29, 87, 42, 176]
abbrev dktJ8_append_0 : List UInt8 := dkwJ8_append_0 ++ []
theorem dksJ8_append_0 : cJ8_append.data.toList.drop 0 = dktJ8_append_0 := by decide +kernel
theorem dJ8_append_0 : decode cJ8_append 0 = .ok (.aload_n 0, 1) := dk_42 (dk_at dksJ8_append_0 0 rfl rfl)
theorem dJ8_append_1 : decode cJ8_append 1 = .ok (.aload_n 1, 1) := dk_43 (dk_at dksJ8_append_0 1 rfl rfl)
theorem dJ8_append_2 : decode cJ8_append 2 = .ok (.invokespecial 29, 3) := dk_183 0 29 (dk_at dksJ8_append_0 2 rfl rfl)
theorem dJ8_append_5 : decode cJ8_append 5 = .ok (.pop, 1) := dk_87 (dk_at dksJ8_append_0 5 rfl rfl)
theorem dJ8_append_6 : decode cJ8_append 6 = .ok (.aload_n 0, 1) := dk_42 (dk_at dksJ8_append_0 6 rfl rfl)
theorem dJ8_append_7 : decode cJ8_append 7 = .ok (.areturn, 1) := dk_176 (dk_at dksJ8_append_0 7 rfl rfl)
abbrev cJ8_length : ByteArray := prog_14_method_93_code
def yJ8_length : MethodName := ⟨RJ8, "length", "()I"⟩
theorem dJ8_length_0 : decode cJ8_length 0 = .ok (.aload_n 0, 1) := by decide +kernel
theorem dJ8_length_1 : decode cJ8_length 1 = .ok (.invokespecial 343, 3) := by decide +kernel
theorem dJ8_length_4 : decode cJ8_length 4 = .ok (.ireturn, 1) := by decide +kernel
abbrev cJ8_toString : ByteArray := prog_14_method_42_code
def yJ8_toString : MethodName := ⟨RJ8, "toString", "()Ljava/lang/String;"⟩
def dkwJ8_toString_0 : List UInt8 := [187, 0, 18, 89, 42, 183, 0, 137, 176]
abbrev dktJ8_toString_0 : List UInt8 := dkwJ8_toString_0 ++ []
theorem dksJ8_toString_0 : cJ8_toString.data.toList.drop 0 = dktJ8_toString_0 := by decide +kernel
theorem dJ8_toString_0 : decode cJ8_toString 0 = .ok (.new 18, 3) := dk_187 0 18 (dk_at dksJ8_toString_0 0 rfl rfl)
theorem dJ8_toString_3 : decode cJ8_toString 3 = .ok (.dup, 1) := dk_89 (dk_at dksJ8_toString_0 3 rfl rfl)
theorem dJ8_toString_4 : decode cJ8_toString 4 = .ok (.aload_n 0, 1) := dk_42 (dk_at dksJ8_toString_0 4 rfl rfl)
theorem dJ8_toString_5 : decode cJ8_toString 5 = .ok (.invokespecial 137, 3) := dk_183 0 137 (dk_at dksJ8_toString_0 5 rfl rfl)
theorem dJ8_toString_8 : decode cJ8_toString 8 = .ok (.areturn, 1) := dk_176 (dk_at dksJ8_toString_0 8 rfl rfl)
theorem q14 : (Jvm.Cond.initialized "java/lang/StringBuilder") ∈ lw_all := lw_g (lw_at lw_m1 13 rfl) rfl
theorem q246 : (Jvm.Cond.instantiable "java/lang/StringBuilder" (4 : Nat)) ∈ lw_all := lw_g (lw_at lw_m2 5 rfl) rfl
theorem q252 : (Jvm.Cond.instanceMethod ({ cls := "java/lang/StringBuilder", name := "<init>", desc := "(I)V" } : Jvm.MethodName)) ∈ lw_all := lw_g (lw_at lw_m2 11 rfl) rfl
theorem q253 : (Jvm.Cond.code ({ cls := "java/lang/StringBuilder", name := "<init>", desc := "(I)V" } : Jvm.MethodName) prog_14_method_2_code (2 : Nat) (Option.none : Option Jvm.ClassFile.FieldType)) ∈ lw_all := lw_g (lw_at lw_m2 12 rfl) rfl
theorem q254 : (Jvm.Cond.methodLink "java/lang/StringBuilder" (1 : Nat) ({ cls := "java/lang/AbstractStringBuilder", name := "<init>", desc := "(I)V" } : Jvm.MethodName)) ∈ lw_all := lw_g (lw_at lw_m2 13 rfl) rfl
theorem q265 : (Jvm.Cond.lays "java/lang/StringBuilder" "java/lang/AbstractStringBuilder" "value" "[B") ∈ lw_all := lw_g (lw_at lw_m2 24 rfl) rfl
theorem q267 : (Jvm.Cond.lays "java/lang/StringBuilder" "java/lang/AbstractStringBuilder" "coder" "B") ∈ lw_all := lw_g (lw_at lw_m2 26 rfl) rfl
theorem q269 : (Jvm.Cond.lays "java/lang/StringBuilder" "java/lang/AbstractStringBuilder" "maybeLatin1" "Z") ∈ lw_all := lw_g (lw_at lw_m2 28 rfl) rfl
theorem q271 : (Jvm.Cond.lays "java/lang/StringBuilder" "java/lang/AbstractStringBuilder" "count" "I") ∈ lw_all := lw_g (lw_at lw_m2 30 rfl) rfl
theorem q273 : (Jvm.Cond.superclass "java/lang/StringBuilder" "java/lang/AbstractStringBuilder") ∈ lw_all := lw_g (lw_at lw_m2 32 rfl) rfl
theorem q275 : (Jvm.Cond.instanceMethod ({ cls := "java/lang/StringBuilder", name := "append", desc := "(Ljava/lang/String;)Ljava/lang/StringBuilder;" } : Jvm.MethodName)) ∈ lw_all := lw_g (lw_at lw_m2 34 rfl) rfl
theorem q276 : (Jvm.Cond.selects "java/lang/StringBuilder" ({ cls := "java/lang/StringBuilder", name := "append", desc := "(Ljava/lang/String;)Ljava/lang/StringBuilder;" } : Jvm.MethodName) ({ cls := "java/lang/StringBuilder", name := "append", desc := "(Ljava/lang/String;)Ljava/lang/StringBuilder;" } : Jvm.MethodName)) ∈ lw_all := lw_g (lw_at lw_m2 35 rfl) rfl
theorem q277 : (Jvm.Cond.code ({ cls := "java/lang/StringBuilder", name := "append", desc := "(Ljava/lang/String;)Ljava/lang/StringBuilder;" } : Jvm.MethodName) prog_14_method_7_code (2 : Nat) (Option.some (Jvm.ClassFile.FieldType.object "java/lang/StringBuilder"))) ∈ lw_all := lw_g (lw_at lw_m2 36 rfl) rfl
theorem q278 : (Jvm.Cond.methodLink "java/lang/StringBuilder" (29 : Nat) ({ cls := "java/lang/AbstractStringBuilder", name := "append", desc := "(Ljava/lang/String;)Ljava/lang/AbstractStringBuilder;" } : Jvm.MethodName)) ∈ lw_all := lw_g (lw_at lw_m2 37 rfl) rfl
theorem q323 : (Jvm.Cond.selects "java/lang/StringBuilder" ({ cls := "java/lang/AbstractStringBuilder", name := "isLatin1", desc := "()Z" } : Jvm.MethodName) ({ cls := "java/lang/AbstractStringBuilder", name := "isLatin1", desc := "()Z" } : Jvm.MethodName)) ∈ lw_all := lw_g (lw_at lw_m2 82 rfl) rfl
theorem q383 : (Jvm.Cond.castable "java/lang/StringBuilder" "java/lang/CharSequence") ∈ lw_tbl := lw_at lw_m2 142 rfl
theorem q384 : (Jvm.Cond.selects "java/lang/StringBuilder" ({ cls := "java/lang/CharSequence", name := "length", desc := "()I" } : Jvm.MethodName) ({ cls := "java/lang/StringBuilder", name := "length", desc := "()I" } : Jvm.MethodName)) ∈ lw_all := lw_g (lw_at lw_m2 143 rfl) rfl
theorem q385 : (Jvm.Cond.unhidden "java/lang/StringBuilder" "length" "()I") ∈ lw_tbl := lw_at lw_m2 144 rfl
theorem q386 : (Jvm.Cond.instanceMethod ({ cls := "java/lang/StringBuilder", name := "length", desc := "()I" } : Jvm.MethodName)) ∈ lw_all := lw_g (lw_at lw_m2 145 rfl) rfl
theorem q387 : (Jvm.Cond.publicMethod ({ cls := "java/lang/StringBuilder", name := "length", desc := "()I" } : Jvm.MethodName)) ∈ lw_tbl := lw_at lw_m2 146 rfl
theorem q388 : (Jvm.Cond.code ({ cls := "java/lang/StringBuilder", name := "length", desc := "()I" } : Jvm.MethodName) prog_14_method_93_code (1 : Nat) (Option.some Jvm.ClassFile.FieldType.int)) ∈ lw_all := lw_g (lw_at lw_m2 147 rfl) rfl
theorem q389 : (Jvm.Cond.methodLink "java/lang/StringBuilder" (343 : Nat) ({ cls := "java/lang/AbstractStringBuilder", name := "length", desc := "()I" } : Jvm.MethodName)) ∈ lw_all := lw_g (lw_at lw_m2 148 rfl) rfl
theorem q421 : (Jvm.Cond.selects "java/lang/StringBuilder" ({ cls := "java/lang/CharSequence", name := "charAt", desc := "(I)C" } : Jvm.MethodName) ({ cls := "java/lang/StringBuilder", name := "charAt", desc := "(I)C" } : Jvm.MethodName)) ∈ lw_all := lw_g (lw_at lw_m2 180 rfl) rfl
theorem q422 : (Jvm.Cond.unhidden "java/lang/StringBuilder" "charAt" "(I)C") ∈ lw_tbl := lw_at lw_m2 181 rfl
theorem q423 : (Jvm.Cond.instanceMethod ({ cls := "java/lang/StringBuilder", name := "charAt", desc := "(I)C" } : Jvm.MethodName)) ∈ lw_all := lw_g (lw_at lw_m2 182 rfl) rfl
theorem q424 : (Jvm.Cond.publicMethod ({ cls := "java/lang/StringBuilder", name := "charAt", desc := "(I)C" } : Jvm.MethodName)) ∈ lw_tbl := lw_at lw_m2 183 rfl
theorem q425 : (Jvm.Cond.code ({ cls := "java/lang/StringBuilder", name := "charAt", desc := "(I)C" } : Jvm.MethodName) prog_14_method_88_code (2 : Nat) (Option.some Jvm.ClassFile.FieldType.char)) ∈ lw_all := lw_g (lw_at lw_m2 184 rfl) rfl
theorem q426 : (Jvm.Cond.methodLink "java/lang/StringBuilder" (329 : Nat) ({ cls := "java/lang/AbstractStringBuilder", name := "charAt", desc := "(I)C" } : Jvm.MethodName)) ∈ lw_all := lw_g (lw_at lw_m2 185 rfl) rfl
theorem q444 : (Jvm.Cond.instanceMethod ({ cls := "java/lang/StringBuilder", name := "capacity", desc := "()I" } : Jvm.MethodName)) ∈ lw_all := lw_g (lw_at lw_m2 203 rfl) rfl
theorem q445 : (Jvm.Cond.selects "java/lang/StringBuilder" ({ cls := "java/lang/StringBuilder", name := "capacity", desc := "()I" } : Jvm.MethodName) ({ cls := "java/lang/StringBuilder", name := "capacity", desc := "()I" } : Jvm.MethodName)) ∈ lw_all := lw_g (lw_at lw_m2 204 rfl) rfl
theorem q446 : (Jvm.Cond.code ({ cls := "java/lang/StringBuilder", name := "capacity", desc := "()I" } : Jvm.MethodName) prog_14_method_92_code (1 : Nat) (Option.some Jvm.ClassFile.FieldType.int)) ∈ lw_all := lw_g (lw_at lw_m2 205 rfl) rfl
theorem q447 : (Jvm.Cond.methodLink "java/lang/StringBuilder" (342 : Nat) ({ cls := "java/lang/AbstractStringBuilder", name := "capacity", desc := "()I" } : Jvm.MethodName)) ∈ lw_all := lw_g (lw_at lw_m2 206 rfl) rfl
theorem q451 : (Jvm.Cond.instanceMethod ({ cls := "java/lang/StringBuilder", name := "setLength", desc := "(I)V" } : Jvm.MethodName)) ∈ lw_all := lw_g (lw_at lw_m2 210 rfl) rfl
theorem q452 : (Jvm.Cond.selects "java/lang/StringBuilder" ({ cls := "java/lang/StringBuilder", name := "setLength", desc := "(I)V" } : Jvm.MethodName) ({ cls := "java/lang/StringBuilder", name := "setLength", desc := "(I)V" } : Jvm.MethodName)) ∈ lw_all := lw_g (lw_at lw_m2 211 rfl) rfl
theorem q453 : (Jvm.Cond.code ({ cls := "java/lang/StringBuilder", name := "setLength", desc := "(I)V" } : Jvm.MethodName) prog_14_method_89_code (2 : Nat) (Option.none : Option Jvm.ClassFile.FieldType)) ∈ lw_all := lw_g (lw_at lw_m2 212 rfl) rfl
theorem q454 : (Jvm.Cond.methodLink "java/lang/StringBuilder" (333 : Nat) ({ cls := "java/lang/AbstractStringBuilder", name := "setLength", desc := "(I)V" } : Jvm.MethodName)) ∈ lw_all := lw_g (lw_at lw_m2 213 rfl) rfl
theorem q480 : (Jvm.Cond.instanceMethod ({ cls := "java/lang/StringBuilder", name := "append", desc := "(C)Ljava/lang/StringBuilder;" } : Jvm.MethodName)) ∈ lw_all := lw_g (lw_at lw_m2 239 rfl) rfl
theorem q481 : (Jvm.Cond.selects "java/lang/StringBuilder" ({ cls := "java/lang/StringBuilder", name := "append", desc := "(C)Ljava/lang/StringBuilder;" } : Jvm.MethodName) ({ cls := "java/lang/StringBuilder", name := "append", desc := "(C)Ljava/lang/StringBuilder;" } : Jvm.MethodName)) ∈ lw_all := lw_g (lw_at lw_m3 0 rfl) rfl
theorem q482 : (Jvm.Cond.code ({ cls := "java/lang/StringBuilder", name := "append", desc := "(C)Ljava/lang/StringBuilder;" } : Jvm.MethodName) prog_14_method_14_code (2 : Nat) (Option.some (Jvm.ClassFile.FieldType.object "java/lang/StringBuilder"))) ∈ lw_all := lw_g (lw_at lw_m3 1 rfl) rfl
theorem q483 : (Jvm.Cond.methodLink "java/lang/StringBuilder" (50 : Nat) ({ cls := "java/lang/AbstractStringBuilder", name := "append", desc := "(C)Ljava/lang/AbstractStringBuilder;" } : Jvm.MethodName)) ∈ lw_all := lw_g (lw_at lw_m3 2 rfl) rfl
theorem q493 : (Jvm.Cond.instanceMethod ({ cls := "java/lang/StringBuilder", name := "toString", desc := "()Ljava/lang/String;" } : Jvm.MethodName)) ∈ lw_all := lw_g (lw_at lw_m3 12 rfl) rfl
theorem q494 : (Jvm.Cond.selects "java/lang/StringBuilder" ({ cls := "java/lang/StringBuilder", name := "toString", desc := "()Ljava/lang/String;" } : Jvm.MethodName) ({ cls := "java/lang/StringBuilder", name := "toString", desc := "()Ljava/lang/String;" } : Jvm.MethodName)) ∈ lw_all := lw_g (lw_at lw_m3 13 rfl) rfl
theorem q495 : (Jvm.Cond.code ({ cls := "java/lang/StringBuilder", name := "toString", desc := "()Ljava/lang/String;" } : Jvm.MethodName) prog_14_method_42_code (1 : Nat) (Option.some (Jvm.ClassFile.FieldType.object "java/lang/String"))) ∈ lw_all := lw_g (lw_at lw_m3 14 rfl) rfl
theorem q496 : (Jvm.Cond.classLink "java/lang/StringBuilder" (18 : Nat) "java/lang/String") ∈ lw_all := lw_g (lw_at lw_m3 15 rfl) rfl
theorem q497 : (Jvm.Cond.methodLink "java/lang/StringBuilder" (137 : Nat) ({ cls := "java/lang/String", name := "<init>", desc := "(Ljava/lang/StringBuilder;)V" } : Jvm.MethodName)) ∈ lw_all := lw_g (lw_at lw_m3 16 rfl) rfl
theorem q506 : (Jvm.Cond.selects "java/lang/StringBuilder" ({ cls := "java/lang/AbstractStringBuilder", name := "getValue", desc := "()[B" } : Jvm.MethodName) ({ cls := "java/lang/AbstractStringBuilder", name := "getValue", desc := "()[B" } : Jvm.MethodName)) ∈ lw_all := lw_g (lw_at lw_m3 25 rfl) rfl
theorem q524 : (Jvm.Cond.instanceMethod ({ cls := "java/lang/StringBuilder", name := "setCharAt", desc := "(IC)V" } : Jvm.MethodName)) ∈ lw_all := lw_g (lw_at lw_m3 43 rfl) rfl
theorem q525 : (Jvm.Cond.selects "java/lang/StringBuilder" ({ cls := "java/lang/StringBuilder", name := "setCharAt", desc := "(IC)V" } : Jvm.MethodName) ({ cls := "java/lang/StringBuilder", name := "setCharAt", desc := "(IC)V" } : Jvm.MethodName)) ∈ lw_all := lw_g (lw_at lw_m3 44 rfl) rfl
theorem q526 : (Jvm.Cond.code ({ cls := "java/lang/StringBuilder", name := "setCharAt", desc := "(IC)V" } : Jvm.MethodName) prog_14_method_82_code (3 : Nat) (Option.none : Option Jvm.ClassFile.FieldType)) ∈ lw_all := lw_g (lw_at lw_m3 45 rfl) rfl
theorem q527 : (Jvm.Cond.methodLink "java/lang/StringBuilder" (308 : Nat) ({ cls := "java/lang/AbstractStringBuilder", name := "setCharAt", desc := "(IC)V" } : Jvm.MethodName)) ∈ lw_all := lw_g (lw_at lw_m3 46 rfl) rfl
theorem q593 : (Jvm.Cond.selects "java/lang/StringBuilder" ({ cls := "java/lang/AbstractStringBuilder", name := "length", desc := "()I" } : Jvm.MethodName) ({ cls := "java/lang/StringBuilder", name := "length", desc := "()I" } : Jvm.MethodName)) ∈ lw_all := lw_g (lw_at lw_m3 112 rfl) rfl
theorem in_J8 : ∀ w ∈ wsJ80, w ∈ lw_all := lw_in wsJ80 [265, 267, 269, 271] (by decide +kernel) (by decide +kernel)
def RJ9 : String := "jdk/internal/util/ArraysSupport"
theorem q15 : (Jvm.Cond.initialized "jdk/internal/util/ArraysSupport") ∈ lw_all := lw_g (lw_at lw_m1 14 rfl) rfl
theorem q294 : (Jvm.Cond.static ({ cls := "jdk/internal/util/ArraysSupport", name := "newLength", desc := "(III)I" } : Jvm.MethodName)) ∈ lw_all := lw_g (lw_at lw_m2 53 rfl) rfl
theorem q295 : (Jvm.Cond.code ({ cls := "jdk/internal/util/ArraysSupport", name := "newLength", desc := "(III)I" } : Jvm.MethodName) prog_20_method_27_code (4 : Nat) (Option.some Jvm.ClassFile.FieldType.int)) ∈ lw_all := lw_g (lw_at lw_m2 54 rfl) rfl
theorem q296 : (Jvm.Cond.methodLink "jdk/internal/util/ArraysSupport" (194 : Nat) ({ cls := "java/lang/Math", name := "max", desc := "(II)I" } : Jvm.MethodName)) ∈ lw_all := lw_g (lw_at lw_m2 55 rfl) rfl
theorem q299 : (Jvm.Cond.constant "jdk/internal/util/ArraysSupport" (200 : Nat) (2147483639 : Int32)) ∈ lw_all := lw_g (lw_at lw_m2 58 rfl) rfl
theorem q300 : (Jvm.Cond.methodLink "jdk/internal/util/ArraysSupport" (201 : Nat) ({ cls := "jdk/internal/util/ArraysSupport", name := "hugeLength", desc := "(II)I" } : Jvm.MethodName)) ∈ lw_all := lw_g (lw_at lw_m2 59 rfl) rfl
theorem q301 : (Jvm.Cond.static ({ cls := "jdk/internal/util/ArraysSupport", name := "hugeLength", desc := "(II)I" } : Jvm.MethodName)) ∈ lw_all := lw_g (lw_at lw_m2 60 rfl) rfl
theorem q302 : (Jvm.Cond.code ({ cls := "jdk/internal/util/ArraysSupport", name := "hugeLength", desc := "(II)I" } : Jvm.MethodName) prog_20_method_28_code (3 : Nat) (Option.some Jvm.ClassFile.FieldType.int)) ∈ lw_all := lw_g (lw_at lw_m2 61 rfl) rfl
abbrev cL_law : ByteArray := code
def dkwL_law_7 : List UInt8 := [29, 4, 96, 46, 182, 0, 30, 159, 0, 5, 3, 172, 132, 3, 6, 167, 255, 99, 4, 172]
abbrev dktL_law_7 : List UInt8 := dkwL_law_7 ++ []
def dkwL_law_6 : List UInt8 := [42, 29, 4, 96, 46, 182, 0, 26, 159, 0, 28, 3, 172, 43, 42, 29, 4, 96, 46, 182, 0, 27, 44, 42]
abbrev dktL_law_6 : List UInt8 := dkwL_law_6 ++ dktL_law_7
def dkwL_law_5 : List UInt8 := [4, 96, 46, 42, 29, 5, 96, 46, 182, 0, 21, 167, 0, 49, 43, 42, 29, 4, 96, 46, 182, 0, 22, 44]
abbrev dktL_law_5 : List UInt8 := dkwL_law_5 ++ dktL_law_6
def dkwL_law_4 : List UInt8 := [46, 182, 0, 17, 167, 0, 80, 43, 42, 29, 4, 96, 46, 42, 29, 5, 96, 46, 182, 0, 18, 44, 42, 29]
abbrev dktL_law_4 : List UInt8 := dkwL_law_4 ++ dktL_law_5
def dkwL_law_3 : List UInt8 := [43, 42, 29, 4, 96, 46, 42, 29, 5, 96, 46, 182, 0, 13, 44, 42, 29, 4, 96, 46, 42, 29, 5, 96]
abbrev dktL_law_3 : List UInt8 := dkwL_law_3 ++ dktL_law_4
def dkwL_law_2 : List UInt8 := [170, 0, 0, 0, 0, 0, 0, 140, 0, 0, 0, 0, 0, 0, 0, 3, 0, 0, 0, 32, 0, 0, 0, 63, 0, 0, 0, 94, 0, 0, 0, 117]
abbrev dktL_law_2 : List UInt8 := dkwL_law_2 ++ dktL_law_3
def dkwL_law_1 : List UInt8 := [163, 0, 154, 42, 29, 46, 6, 126]
abbrev dktL_law_1 : List UInt8 := dkwL_law_1 ++ dktL_law_2
def dkwL_law_0 : List UInt8 := [187, 0, 7, 89, 183, 0, 9, 76, 187, 0, 10, 89, 183, 0, 12, 77, 3, 62, 29, 42, 190, 16, 6, 100]
abbrev dktL_law_0 : List UInt8 := dkwL_law_0 ++ dktL_law_1
theorem dksL_law_0 : cL_law.data.toList.drop 0 = dktL_law_0 := by decide +kernel
theorem dksL_law_1 : cL_law.data.toList.drop 24 = dktL_law_1 := dk_seg dksL_law_0 24 rfl rfl
theorem dksL_law_2 : cL_law.data.toList.drop 32 = dktL_law_2 := dk_seg dksL_law_1 8 rfl rfl
theorem dksL_law_3 : cL_law.data.toList.drop 64 = dktL_law_3 := dk_seg dksL_law_2 32 rfl rfl
theorem dksL_law_4 : cL_law.data.toList.drop 88 = dktL_law_4 := dk_seg dksL_law_3 24 rfl rfl
theorem dksL_law_5 : cL_law.data.toList.drop 112 = dktL_law_5 := dk_seg dksL_law_4 24 rfl rfl
theorem dksL_law_6 : cL_law.data.toList.drop 136 = dktL_law_6 := dk_seg dksL_law_5 24 rfl rfl
theorem dksL_law_7 : cL_law.data.toList.drop 160 = dktL_law_7 := dk_seg dksL_law_6 24 rfl rfl
theorem dL_law_0 : decode cL_law 0 = .ok (.new 7, 3) := dk_187 0 7 (dk_at dksL_law_0 0 rfl rfl)
theorem dL_law_3 : decode cL_law 3 = .ok (.dup, 1) := dk_89 (dk_at dksL_law_0 3 rfl rfl)
theorem dL_law_4 : decode cL_law 4 = .ok (.invokespecial 9, 3) := dk_183 0 9 (dk_at dksL_law_0 4 rfl rfl)
theorem dL_law_7 : decode cL_law 7 = .ok (.astore_n 1, 1) := dk_76 (dk_at dksL_law_0 7 rfl rfl)
theorem dL_law_8 : decode cL_law 8 = .ok (.new 10, 3) := dk_187 0 10 (dk_at dksL_law_0 8 rfl rfl)
theorem dL_law_11 : decode cL_law 11 = .ok (.dup, 1) := dk_89 (dk_at dksL_law_0 11 rfl rfl)
theorem dL_law_12 : decode cL_law 12 = .ok (.invokespecial 12, 3) := dk_183 0 12 (dk_at dksL_law_0 12 rfl rfl)
theorem dL_law_15 : decode cL_law 15 = .ok (.astore_n 2, 1) := dk_77 (dk_at dksL_law_0 15 rfl rfl)
theorem dL_law_16 : decode cL_law 16 = .ok (.iconst 0, 1) := dk_3 (dk_at dksL_law_0 16 rfl rfl)
theorem dL_law_17 : decode cL_law 17 = .ok (.istore_n 3, 1) := dk_62 (dk_at dksL_law_0 17 rfl rfl)
theorem dL_law_18 : decode cL_law 18 = .ok (.iload_n 3, 1) := dk_29 (dk_at dksL_law_0 18 rfl rfl)
theorem dL_law_19 : decode cL_law 19 = .ok (.aload_n 0, 1) := dk_42 (dk_at dksL_law_0 19 rfl rfl)
theorem dL_law_20 : decode cL_law 20 = .ok (.arraylength, 1) := dk_190 (dk_at dksL_law_0 20 rfl rfl)
theorem dL_law_21 : decode cL_law 21 = .ok (.bipush 6, 2) := dk_16 6 (dk_at dksL_law_0 21 rfl rfl)
theorem dL_law_23 : decode cL_law 23 = .ok (.isub, 1) := dk_100 (dk_at dksL_law_0 23 rfl rfl)
theorem dL_law_24 : decode cL_law 24 = .ok (.if_icmp .gt 154, 3) := dk_163 0 154 (dk_at dksL_law_1 0 rfl rfl)
theorem dL_law_27 : decode cL_law 27 = .ok (.aload_n 0, 1) := dk_42 (dk_at dksL_law_1 3 rfl rfl)
theorem dL_law_28 : decode cL_law 28 = .ok (.iload_n 3, 1) := dk_29 (dk_at dksL_law_1 4 rfl rfl)
theorem dL_law_29 : decode cL_law 29 = .ok (.iaload, 1) := dk_46 (dk_at dksL_law_1 5 rfl rfl)
theorem dL_law_30 : decode cL_law 30 = .ok (.iconst 3, 1) := dk_6 (dk_at dksL_law_1 6 rfl rfl)
theorem dL_law_31 : decode cL_law 31 = .ok (.iand, 1) := dk_126 (dk_at dksL_law_1 7 rfl rfl)
theorem dL_law_32 : decode cL_law 32 = .ok (.tableswitch 140 0 3 #[32, 63, 94, 117], 32) := by decide +kernel
theorem dL_law_64 : decode cL_law 64 = .ok (.aload_n 1, 1) := dk_43 (dk_at dksL_law_3 0 rfl rfl)
theorem dL_law_65 : decode cL_law 65 = .ok (.aload_n 0, 1) := dk_42 (dk_at dksL_law_3 1 rfl rfl)
theorem dL_law_66 : decode cL_law 66 = .ok (.iload_n 3, 1) := dk_29 (dk_at dksL_law_3 2 rfl rfl)
theorem dL_law_67 : decode cL_law 67 = .ok (.iconst 1, 1) := dk_4 (dk_at dksL_law_3 3 rfl rfl)
theorem dL_law_68 : decode cL_law 68 = .ok (.iadd, 1) := dk_96 (dk_at dksL_law_3 4 rfl rfl)
theorem dL_law_69 : decode cL_law 69 = .ok (.iaload, 1) := dk_46 (dk_at dksL_law_3 5 rfl rfl)
theorem dL_law_70 : decode cL_law 70 = .ok (.aload_n 0, 1) := dk_42 (dk_at dksL_law_3 6 rfl rfl)
theorem dL_law_71 : decode cL_law 71 = .ok (.iload_n 3, 1) := dk_29 (dk_at dksL_law_3 7 rfl rfl)
theorem dL_law_72 : decode cL_law 72 = .ok (.iconst 2, 1) := dk_5 (dk_at dksL_law_3 8 rfl rfl)
theorem dL_law_73 : decode cL_law 73 = .ok (.iadd, 1) := dk_96 (dk_at dksL_law_3 9 rfl rfl)
theorem dL_law_74 : decode cL_law 74 = .ok (.iaload, 1) := dk_46 (dk_at dksL_law_3 10 rfl rfl)
theorem dL_law_75 : decode cL_law 75 = .ok (.invokevirtual 13, 3) := dk_182 0 13 (dk_at dksL_law_3 11 rfl rfl)
theorem dL_law_78 : decode cL_law 78 = .ok (.aload_n 2, 1) := dk_44 (dk_at dksL_law_3 14 rfl rfl)
theorem dL_law_79 : decode cL_law 79 = .ok (.aload_n 0, 1) := dk_42 (dk_at dksL_law_3 15 rfl rfl)
theorem dL_law_80 : decode cL_law 80 = .ok (.iload_n 3, 1) := dk_29 (dk_at dksL_law_3 16 rfl rfl)
theorem dL_law_81 : decode cL_law 81 = .ok (.iconst 1, 1) := dk_4 (dk_at dksL_law_3 17 rfl rfl)
theorem dL_law_82 : decode cL_law 82 = .ok (.iadd, 1) := dk_96 (dk_at dksL_law_3 18 rfl rfl)
theorem dL_law_83 : decode cL_law 83 = .ok (.iaload, 1) := dk_46 (dk_at dksL_law_3 19 rfl rfl)
theorem dL_law_84 : decode cL_law 84 = .ok (.aload_n 0, 1) := dk_42 (dk_at dksL_law_3 20 rfl rfl)
theorem dL_law_85 : decode cL_law 85 = .ok (.iload_n 3, 1) := dk_29 (dk_at dksL_law_3 21 rfl rfl)
theorem dL_law_86 : decode cL_law 86 = .ok (.iconst 2, 1) := dk_5 (dk_at dksL_law_3 22 rfl rfl)
theorem dL_law_87 : decode cL_law 87 = .ok (.iadd, 1) := dk_96 (dk_at dksL_law_3 23 rfl rfl)
theorem dL_law_88 : decode cL_law 88 = .ok (.iaload, 1) := dk_46 (dk_at dksL_law_4 0 rfl rfl)
theorem dL_law_89 : decode cL_law 89 = .ok (.invokevirtual 17, 3) := dk_182 0 17 (dk_at dksL_law_4 1 rfl rfl)
theorem dL_law_92 : decode cL_law 92 = .ok (.goto 80, 3) := dk_167 0 80 (dk_at dksL_law_4 4 rfl rfl)
theorem dL_law_95 : decode cL_law 95 = .ok (.aload_n 1, 1) := dk_43 (dk_at dksL_law_4 7 rfl rfl)
theorem dL_law_96 : decode cL_law 96 = .ok (.aload_n 0, 1) := dk_42 (dk_at dksL_law_4 8 rfl rfl)
theorem dL_law_97 : decode cL_law 97 = .ok (.iload_n 3, 1) := dk_29 (dk_at dksL_law_4 9 rfl rfl)
theorem dL_law_98 : decode cL_law 98 = .ok (.iconst 1, 1) := dk_4 (dk_at dksL_law_4 10 rfl rfl)
theorem dL_law_99 : decode cL_law 99 = .ok (.iadd, 1) := dk_96 (dk_at dksL_law_4 11 rfl rfl)
theorem dL_law_100 : decode cL_law 100 = .ok (.iaload, 1) := dk_46 (dk_at dksL_law_4 12 rfl rfl)
theorem dL_law_101 : decode cL_law 101 = .ok (.aload_n 0, 1) := dk_42 (dk_at dksL_law_4 13 rfl rfl)
theorem dL_law_102 : decode cL_law 102 = .ok (.iload_n 3, 1) := dk_29 (dk_at dksL_law_4 14 rfl rfl)
theorem dL_law_103 : decode cL_law 103 = .ok (.iconst 2, 1) := dk_5 (dk_at dksL_law_4 15 rfl rfl)
theorem dL_law_104 : decode cL_law 104 = .ok (.iadd, 1) := dk_96 (dk_at dksL_law_4 16 rfl rfl)
theorem dL_law_105 : decode cL_law 105 = .ok (.iaload, 1) := dk_46 (dk_at dksL_law_4 17 rfl rfl)
theorem dL_law_106 : decode cL_law 106 = .ok (.invokevirtual 18, 3) := dk_182 0 18 (dk_at dksL_law_4 18 rfl rfl)
theorem dL_law_109 : decode cL_law 109 = .ok (.aload_n 2, 1) := dk_44 (dk_at dksL_law_4 21 rfl rfl)
theorem dL_law_110 : decode cL_law 110 = .ok (.aload_n 0, 1) := dk_42 (dk_at dksL_law_4 22 rfl rfl)
theorem dL_law_111 : decode cL_law 111 = .ok (.iload_n 3, 1) := dk_29 (dk_at dksL_law_4 23 rfl rfl)
theorem dL_law_112 : decode cL_law 112 = .ok (.iconst 1, 1) := dk_4 (dk_at dksL_law_5 0 rfl rfl)
theorem dL_law_113 : decode cL_law 113 = .ok (.iadd, 1) := dk_96 (dk_at dksL_law_5 1 rfl rfl)
theorem dL_law_114 : decode cL_law 114 = .ok (.iaload, 1) := dk_46 (dk_at dksL_law_5 2 rfl rfl)
theorem dL_law_115 : decode cL_law 115 = .ok (.aload_n 0, 1) := dk_42 (dk_at dksL_law_5 3 rfl rfl)
theorem dL_law_116 : decode cL_law 116 = .ok (.iload_n 3, 1) := dk_29 (dk_at dksL_law_5 4 rfl rfl)
theorem dL_law_117 : decode cL_law 117 = .ok (.iconst 2, 1) := dk_5 (dk_at dksL_law_5 5 rfl rfl)
theorem dL_law_118 : decode cL_law 118 = .ok (.iadd, 1) := dk_96 (dk_at dksL_law_5 6 rfl rfl)
theorem dL_law_119 : decode cL_law 119 = .ok (.iaload, 1) := dk_46 (dk_at dksL_law_5 7 rfl rfl)
theorem dL_law_120 : decode cL_law 120 = .ok (.invokevirtual 21, 3) := dk_182 0 21 (dk_at dksL_law_5 8 rfl rfl)
theorem dL_law_123 : decode cL_law 123 = .ok (.goto 49, 3) := dk_167 0 49 (dk_at dksL_law_5 11 rfl rfl)
theorem dL_law_126 : decode cL_law 126 = .ok (.aload_n 1, 1) := dk_43 (dk_at dksL_law_5 14 rfl rfl)
theorem dL_law_127 : decode cL_law 127 = .ok (.aload_n 0, 1) := dk_42 (dk_at dksL_law_5 15 rfl rfl)
theorem dL_law_128 : decode cL_law 128 = .ok (.iload_n 3, 1) := dk_29 (dk_at dksL_law_5 16 rfl rfl)
theorem dL_law_129 : decode cL_law 129 = .ok (.iconst 1, 1) := dk_4 (dk_at dksL_law_5 17 rfl rfl)
theorem dL_law_130 : decode cL_law 130 = .ok (.iadd, 1) := dk_96 (dk_at dksL_law_5 18 rfl rfl)
theorem dL_law_131 : decode cL_law 131 = .ok (.iaload, 1) := dk_46 (dk_at dksL_law_5 19 rfl rfl)
theorem dL_law_132 : decode cL_law 132 = .ok (.invokevirtual 22, 3) := dk_182 0 22 (dk_at dksL_law_5 20 rfl rfl)
theorem dL_law_135 : decode cL_law 135 = .ok (.aload_n 2, 1) := dk_44 (dk_at dksL_law_5 23 rfl rfl)
theorem dL_law_136 : decode cL_law 136 = .ok (.aload_n 0, 1) := dk_42 (dk_at dksL_law_6 0 rfl rfl)
theorem dL_law_137 : decode cL_law 137 = .ok (.iload_n 3, 1) := dk_29 (dk_at dksL_law_6 1 rfl rfl)
theorem dL_law_138 : decode cL_law 138 = .ok (.iconst 1, 1) := dk_4 (dk_at dksL_law_6 2 rfl rfl)
theorem dL_law_139 : decode cL_law 139 = .ok (.iadd, 1) := dk_96 (dk_at dksL_law_6 3 rfl rfl)
theorem dL_law_140 : decode cL_law 140 = .ok (.iaload, 1) := dk_46 (dk_at dksL_law_6 4 rfl rfl)
theorem dL_law_141 : decode cL_law 141 = .ok (.invokevirtual 26, 3) := dk_182 0 26 (dk_at dksL_law_6 5 rfl rfl)
theorem dL_law_144 : decode cL_law 144 = .ok (.if_icmp .eq 28, 3) := dk_159 0 28 (dk_at dksL_law_6 8 rfl rfl)
theorem dL_law_147 : decode cL_law 147 = .ok (.iconst 0, 1) := dk_3 (dk_at dksL_law_6 11 rfl rfl)
theorem dL_law_148 : decode cL_law 148 = .ok (.ireturn, 1) := dk_172 (dk_at dksL_law_6 12 rfl rfl)
theorem dL_law_149 : decode cL_law 149 = .ok (.aload_n 1, 1) := dk_43 (dk_at dksL_law_6 13 rfl rfl)
theorem dL_law_150 : decode cL_law 150 = .ok (.aload_n 0, 1) := dk_42 (dk_at dksL_law_6 14 rfl rfl)
theorem dL_law_151 : decode cL_law 151 = .ok (.iload_n 3, 1) := dk_29 (dk_at dksL_law_6 15 rfl rfl)
theorem dL_law_152 : decode cL_law 152 = .ok (.iconst 1, 1) := dk_4 (dk_at dksL_law_6 16 rfl rfl)
theorem dL_law_153 : decode cL_law 153 = .ok (.iadd, 1) := dk_96 (dk_at dksL_law_6 17 rfl rfl)
theorem dL_law_154 : decode cL_law 154 = .ok (.iaload, 1) := dk_46 (dk_at dksL_law_6 18 rfl rfl)
theorem dL_law_155 : decode cL_law 155 = .ok (.invokevirtual 27, 3) := dk_182 0 27 (dk_at dksL_law_6 19 rfl rfl)
theorem dL_law_158 : decode cL_law 158 = .ok (.aload_n 2, 1) := dk_44 (dk_at dksL_law_6 22 rfl rfl)
theorem dL_law_159 : decode cL_law 159 = .ok (.aload_n 0, 1) := dk_42 (dk_at dksL_law_6 23 rfl rfl)
theorem dL_law_160 : decode cL_law 160 = .ok (.iload_n 3, 1) := dk_29 (dk_at dksL_law_7 0 rfl rfl)
theorem dL_law_161 : decode cL_law 161 = .ok (.iconst 1, 1) := dk_4 (dk_at dksL_law_7 1 rfl rfl)
theorem dL_law_162 : decode cL_law 162 = .ok (.iadd, 1) := dk_96 (dk_at dksL_law_7 2 rfl rfl)
theorem dL_law_163 : decode cL_law 163 = .ok (.iaload, 1) := dk_46 (dk_at dksL_law_7 3 rfl rfl)
theorem dL_law_164 : decode cL_law 164 = .ok (.invokevirtual 30, 3) := dk_182 0 30 (dk_at dksL_law_7 4 rfl rfl)
theorem dL_law_167 : decode cL_law 167 = .ok (.if_icmp .eq 5, 3) := dk_159 0 5 (dk_at dksL_law_7 7 rfl rfl)
theorem dL_law_170 : decode cL_law 170 = .ok (.iconst 0, 1) := dk_3 (dk_at dksL_law_7 10 rfl rfl)
theorem dL_law_171 : decode cL_law 171 = .ok (.ireturn, 1) := dk_172 (dk_at dksL_law_7 11 rfl rfl)
theorem dL_law_172 : decode cL_law 172 = .ok (.iinc 3 6, 3) := dk_132 3 6 (dk_at dksL_law_7 12 rfl rfl)
theorem dL_law_175 : decode cL_law 175 = .ok (.goto (-157), 3) := dk_167 255 99 (dk_at dksL_law_7 15 rfl rfl)
theorem dL_law_178 : decode cL_law 178 = .ok (.iconst 1, 1) := dk_4 (dk_at dksL_law_7 18 rfl rfl)
theorem dL_law_179 : decode cL_law 179 = .ok (.ireturn, 1) := dk_172 (dk_at dksL_law_7 19 rfl rfl)
def RX0 : String := "SquareParity"
def TX0 : u_T := fun k => match k with
  | 0 => ("SquareParity", "letters", "[C", true)
  | _ => ("SquareParity", "whole", "Ljava/lang/String;", false)
def tyX0 : Nat → FieldType := fun k => match k with
  | 0 => .array .char
  | _ => .object "java/lang/String"
abbrev wsX00 : List Cond := u_ws RX0 TX0 2
theorem nmX0 : ∀ a, a < 2 → ∀ b, b < 2 → a ≠ b → (TX0 a).2.1 ≠ (TX0 b).2.1 := by decide +kernel
theorem tyX0_ok : ∀ k, k < 2 → parseFieldDescriptor (TX0 k).2.2.1 = some (tyX0 k) := by decide +kernel
abbrev cX0_init : ByteArray := prog_2_method_1_code
def yX0_init : MethodName := ⟨RX0, "<init>", "()V"⟩
def dkwX0_init_0 : List UInt8 := [42, 183, 0, 1, 42, 16, 62, 188, 5, 181, 0, 7, 42, 18, 13, 181, 0, 15, 177]
abbrev dktX0_init_0 : List UInt8 := dkwX0_init_0 ++ []
theorem dksX0_init_0 : cX0_init.data.toList.drop 0 = dktX0_init_0 := by decide +kernel
theorem dX0_init_0 : decode cX0_init 0 = .ok (.aload_n 0, 1) := dk_42 (dk_at dksX0_init_0 0 rfl rfl)
theorem dX0_init_1 : decode cX0_init 1 = .ok (.invokespecial 1, 3) := dk_183 0 1 (dk_at dksX0_init_0 1 rfl rfl)
theorem dX0_init_4 : decode cX0_init 4 = .ok (.aload_n 0, 1) := dk_42 (dk_at dksX0_init_0 4 rfl rfl)
theorem dX0_init_5 : decode cX0_init 5 = .ok (.bipush 62, 2) := dk_16 62 (dk_at dksX0_init_0 5 rfl rfl)
theorem dX0_init_7 : decode cX0_init 7 = .ok (.newarray .char, 2) := dk_188_5 (dk_at dksX0_init_0 7 rfl rfl)
theorem dX0_init_9 : decode cX0_init 9 = .ok (.putfield 7, 3) := dk_181 0 7 (dk_at dksX0_init_0 9 rfl rfl)
theorem dX0_init_12 : decode cX0_init 12 = .ok (.aload_n 0, 1) := dk_42 (dk_at dksX0_init_0 12 rfl rfl)
theorem dX0_init_13 : decode cX0_init 13 = .ok (.ldc 13, 2) := dk_18 13 (dk_at dksX0_init_0 13 rfl rfl)
theorem dX0_init_15 : decode cX0_init 15 = .ok (.putfield 15, 3) := dk_181 0 15 (dk_at dksX0_init_0 15 rfl rfl)
theorem dX0_init_18 : decode cX0_init 18 = .ok (.return_, 1) := dk_177 (dk_at dksX0_init_0 18 rfl rfl)
abbrev cX0_letter : ByteArray := prog_2_method_2_code
def yX0_letter : MethodName := ⟨RX0, "letter", "(II)V"⟩
def dkwX0_letter_0 : List UInt8 := [42, 180, 0, 7, 27, 18, 19, 126, 16, 62, 112, 28, 17, 0, 255, 126, 146, 85, 177]
abbrev dktX0_letter_0 : List UInt8 := dkwX0_letter_0 ++ []
theorem dksX0_letter_0 : cX0_letter.data.toList.drop 0 = dktX0_letter_0 := by decide +kernel
theorem dX0_letter_0 : decode cX0_letter 0 = .ok (.aload_n 0, 1) := dk_42 (dk_at dksX0_letter_0 0 rfl rfl)
theorem dX0_letter_1 : decode cX0_letter 1 = .ok (.getfield 7, 3) := dk_180 0 7 (dk_at dksX0_letter_0 1 rfl rfl)
theorem dX0_letter_4 : decode cX0_letter 4 = .ok (.iload_n 1, 1) := dk_27 (dk_at dksX0_letter_0 4 rfl rfl)
theorem dX0_letter_5 : decode cX0_letter 5 = .ok (.ldc 19, 2) := dk_18 19 (dk_at dksX0_letter_0 5 rfl rfl)
theorem dX0_letter_7 : decode cX0_letter 7 = .ok (.iand, 1) := dk_126 (dk_at dksX0_letter_0 7 rfl rfl)
theorem dX0_letter_8 : decode cX0_letter 8 = .ok (.bipush 62, 2) := dk_16 62 (dk_at dksX0_letter_0 8 rfl rfl)
theorem dX0_letter_10 : decode cX0_letter 10 = .ok (.irem, 1) := dk_112 (dk_at dksX0_letter_0 10 rfl rfl)
theorem dX0_letter_11 : decode cX0_letter 11 = .ok (.iload_n 2, 1) := dk_28 (dk_at dksX0_letter_0 11 rfl rfl)
theorem dX0_letter_12 : decode cX0_letter 12 = .ok (.sipush 255, 3) := dk_17 0 255 (dk_at dksX0_letter_0 12 rfl rfl)
theorem dX0_letter_15 : decode cX0_letter 15 = .ok (.iand, 1) := dk_126 (dk_at dksX0_letter_0 15 rfl rfl)
theorem dX0_letter_16 : decode cX0_letter 16 = .ok (.i2c, 1) := dk_146 (dk_at dksX0_letter_0 16 rfl rfl)
theorem dX0_letter_17 : decode cX0_letter 17 = .ok (.castore, 1) := dk_85 (dk_at dksX0_letter_0 17 rfl rfl)
theorem dX0_letter_18 : decode cX0_letter 18 = .ok (.return_, 1) := dk_177 (dk_at dksX0_letter_0 18 rfl rfl)
abbrev cX0_fill : ByteArray := prog_2_method_3_code
def yX0_fill : MethodName := ⟨RX0, "fill", "(II)V"⟩
def dkwX0_fill_1 : List UInt8 := [132, 3, 1, 167, 255, 231, 177]
abbrev dktX0_fill_1 : List UInt8 := dkwX0_fill_1 ++ []
def dkwX0_fill_0 : List UInt8 := [3, 62, 29, 16, 62, 162, 0, 25, 42, 180, 0, 7, 29, 27, 28, 29, 104, 96, 17, 0, 255, 126, 146, 85]
abbrev dktX0_fill_0 : List UInt8 := dkwX0_fill_0 ++ dktX0_fill_1
theorem dksX0_fill_0 : cX0_fill.data.toList.drop 0 = dktX0_fill_0 := by decide +kernel
theorem dksX0_fill_1 : cX0_fill.data.toList.drop 24 = dktX0_fill_1 := dk_seg dksX0_fill_0 24 rfl rfl
theorem dX0_fill_0 : decode cX0_fill 0 = .ok (.iconst 0, 1) := dk_3 (dk_at dksX0_fill_0 0 rfl rfl)
theorem dX0_fill_1 : decode cX0_fill 1 = .ok (.istore_n 3, 1) := dk_62 (dk_at dksX0_fill_0 1 rfl rfl)
theorem dX0_fill_2 : decode cX0_fill 2 = .ok (.iload_n 3, 1) := dk_29 (dk_at dksX0_fill_0 2 rfl rfl)
theorem dX0_fill_3 : decode cX0_fill 3 = .ok (.bipush 62, 2) := dk_16 62 (dk_at dksX0_fill_0 3 rfl rfl)
theorem dX0_fill_5 : decode cX0_fill 5 = .ok (.if_icmp .ge 25, 3) := dk_162 0 25 (dk_at dksX0_fill_0 5 rfl rfl)
theorem dX0_fill_8 : decode cX0_fill 8 = .ok (.aload_n 0, 1) := dk_42 (dk_at dksX0_fill_0 8 rfl rfl)
theorem dX0_fill_9 : decode cX0_fill 9 = .ok (.getfield 7, 3) := dk_180 0 7 (dk_at dksX0_fill_0 9 rfl rfl)
theorem dX0_fill_12 : decode cX0_fill 12 = .ok (.iload_n 3, 1) := dk_29 (dk_at dksX0_fill_0 12 rfl rfl)
theorem dX0_fill_13 : decode cX0_fill 13 = .ok (.iload_n 1, 1) := dk_27 (dk_at dksX0_fill_0 13 rfl rfl)
theorem dX0_fill_14 : decode cX0_fill 14 = .ok (.iload_n 2, 1) := dk_28 (dk_at dksX0_fill_0 14 rfl rfl)
theorem dX0_fill_15 : decode cX0_fill 15 = .ok (.iload_n 3, 1) := dk_29 (dk_at dksX0_fill_0 15 rfl rfl)
theorem dX0_fill_16 : decode cX0_fill 16 = .ok (.imul, 1) := dk_104 (dk_at dksX0_fill_0 16 rfl rfl)
theorem dX0_fill_17 : decode cX0_fill 17 = .ok (.iadd, 1) := dk_96 (dk_at dksX0_fill_0 17 rfl rfl)
theorem dX0_fill_18 : decode cX0_fill 18 = .ok (.sipush 255, 3) := dk_17 0 255 (dk_at dksX0_fill_0 18 rfl rfl)
theorem dX0_fill_21 : decode cX0_fill 21 = .ok (.iand, 1) := dk_126 (dk_at dksX0_fill_0 21 rfl rfl)
theorem dX0_fill_22 : decode cX0_fill 22 = .ok (.i2c, 1) := dk_146 (dk_at dksX0_fill_0 22 rfl rfl)
theorem dX0_fill_23 : decode cX0_fill 23 = .ok (.castore, 1) := dk_85 (dk_at dksX0_fill_0 23 rfl rfl)
theorem dX0_fill_24 : decode cX0_fill 24 = .ok (.iinc 3 1, 3) := dk_132 3 1 (dk_at dksX0_fill_1 0 rfl rfl)
theorem dX0_fill_27 : decode cX0_fill 27 = .ok (.goto (-25), 3) := dk_167 255 231 (dk_at dksX0_fill_1 3 rfl rfl)
theorem dX0_fill_30 : decode cX0_fill 30 = .ok (.return_, 1) := dk_177 (dk_at dksX0_fill_1 6 rfl rfl)
abbrev cX0_write : ByteArray := prog_2_method_4_code
def yX0_write : MethodName := ⟨RX0, "write", "(I)I"⟩
def dkwX0_write_2 : List UInt8 := [183, 0, 34, 184, 0, 37, 181, 0, 15, 42, 180, 0, 15, 182, 0, 43, 172]
abbrev dktX0_write_2 : List UInt8 := dkwX0_write_2 ++ []
def dkwX0_write_1 : List UInt8 := [183, 0, 26, 187, 0, 29, 89, 3, 178, 0, 22, 28, 46, 178, 0, 31, 28, 46, 16, 8, 16, 8, 4]
abbrev dktX0_write_1 : List UInt8 := dkwX0_write_1 ++ dktX0_write_2
def dkwX0_write_0 : List UInt8 := [27, 18, 19, 126, 16, 10, 112, 61, 42, 187, 0, 20, 89, 42, 180, 0, 7, 3, 178, 0, 22, 28, 46]
abbrev dktX0_write_0 : List UInt8 := dkwX0_write_0 ++ dktX0_write_1
theorem dksX0_write_0 : cX0_write.data.toList.drop 0 = dktX0_write_0 := by decide +kernel
theorem dksX0_write_1 : cX0_write.data.toList.drop 23 = dktX0_write_1 := dk_seg dksX0_write_0 23 rfl rfl
theorem dksX0_write_2 : cX0_write.data.toList.drop 46 = dktX0_write_2 := dk_seg dksX0_write_1 23 rfl rfl
theorem dX0_write_0 : decode cX0_write 0 = .ok (.iload_n 1, 1) := dk_27 (dk_at dksX0_write_0 0 rfl rfl)
theorem dX0_write_1 : decode cX0_write 1 = .ok (.ldc 19, 2) := dk_18 19 (dk_at dksX0_write_0 1 rfl rfl)
theorem dX0_write_3 : decode cX0_write 3 = .ok (.iand, 1) := dk_126 (dk_at dksX0_write_0 3 rfl rfl)
theorem dX0_write_4 : decode cX0_write 4 = .ok (.bipush 10, 2) := dk_16 10 (dk_at dksX0_write_0 4 rfl rfl)
theorem dX0_write_6 : decode cX0_write 6 = .ok (.irem, 1) := dk_112 (dk_at dksX0_write_0 6 rfl rfl)
theorem dX0_write_7 : decode cX0_write 7 = .ok (.istore_n 2, 1) := dk_61 (dk_at dksX0_write_0 7 rfl rfl)
theorem dX0_write_8 : decode cX0_write 8 = .ok (.aload_n 0, 1) := dk_42 (dk_at dksX0_write_0 8 rfl rfl)
theorem dX0_write_9 : decode cX0_write 9 = .ok (.new 20, 3) := dk_187 0 20 (dk_at dksX0_write_0 9 rfl rfl)
theorem dX0_write_12 : decode cX0_write 12 = .ok (.dup, 1) := dk_89 (dk_at dksX0_write_0 12 rfl rfl)
theorem dX0_write_13 : decode cX0_write 13 = .ok (.aload_n 0, 1) := dk_42 (dk_at dksX0_write_0 13 rfl rfl)
theorem dX0_write_14 : decode cX0_write 14 = .ok (.getfield 7, 3) := dk_180 0 7 (dk_at dksX0_write_0 14 rfl rfl)
theorem dX0_write_17 : decode cX0_write 17 = .ok (.iconst 0, 1) := dk_3 (dk_at dksX0_write_0 17 rfl rfl)
theorem dX0_write_18 : decode cX0_write 18 = .ok (.getstatic 22, 3) := dk_178 0 22 (dk_at dksX0_write_0 18 rfl rfl)
theorem dX0_write_21 : decode cX0_write 21 = .ok (.iload_n 2, 1) := dk_28 (dk_at dksX0_write_0 21 rfl rfl)
theorem dX0_write_22 : decode cX0_write 22 = .ok (.iaload, 1) := dk_46 (dk_at dksX0_write_0 22 rfl rfl)
theorem dX0_write_23 : decode cX0_write 23 = .ok (.invokespecial 26, 3) := dk_183 0 26 (dk_at dksX0_write_1 0 rfl rfl)
theorem dX0_write_26 : decode cX0_write 26 = .ok (.new 29, 3) := dk_187 0 29 (dk_at dksX0_write_1 3 rfl rfl)
theorem dX0_write_29 : decode cX0_write 29 = .ok (.dup, 1) := dk_89 (dk_at dksX0_write_1 6 rfl rfl)
theorem dX0_write_30 : decode cX0_write 30 = .ok (.iconst 0, 1) := dk_3 (dk_at dksX0_write_1 7 rfl rfl)
theorem dX0_write_31 : decode cX0_write 31 = .ok (.getstatic 22, 3) := dk_178 0 22 (dk_at dksX0_write_1 8 rfl rfl)
theorem dX0_write_34 : decode cX0_write 34 = .ok (.iload_n 2, 1) := dk_28 (dk_at dksX0_write_1 11 rfl rfl)
theorem dX0_write_35 : decode cX0_write 35 = .ok (.iaload, 1) := dk_46 (dk_at dksX0_write_1 12 rfl rfl)
theorem dX0_write_36 : decode cX0_write 36 = .ok (.getstatic 31, 3) := dk_178 0 31 (dk_at dksX0_write_1 13 rfl rfl)
theorem dX0_write_39 : decode cX0_write 39 = .ok (.iload_n 2, 1) := dk_28 (dk_at dksX0_write_1 16 rfl rfl)
theorem dX0_write_40 : decode cX0_write 40 = .ok (.iaload, 1) := dk_46 (dk_at dksX0_write_1 17 rfl rfl)
theorem dX0_write_41 : decode cX0_write 41 = .ok (.bipush 8, 2) := dk_16 8 (dk_at dksX0_write_1 18 rfl rfl)
theorem dX0_write_43 : decode cX0_write 43 = .ok (.bipush 8, 2) := dk_16 8 (dk_at dksX0_write_1 20 rfl rfl)
theorem dX0_write_45 : decode cX0_write 45 = .ok (.iconst 1, 1) := dk_4 (dk_at dksX0_write_1 22 rfl rfl)
theorem dX0_write_46 : decode cX0_write 46 = .ok (.invokespecial 34, 3) := dk_183 0 34 (dk_at dksX0_write_2 0 rfl rfl)
theorem dX0_write_49 : decode cX0_write 49 = .ok (.invokestatic 37, 3) := dk_184 0 37 (dk_at dksX0_write_2 3 rfl rfl)
theorem dX0_write_52 : decode cX0_write 52 = .ok (.putfield 15, 3) := dk_181 0 15 (dk_at dksX0_write_2 6 rfl rfl)
theorem dX0_write_55 : decode cX0_write 55 = .ok (.aload_n 0, 1) := dk_42 (dk_at dksX0_write_2 9 rfl rfl)
theorem dX0_write_56 : decode cX0_write 56 = .ok (.getfield 15, 3) := dk_180 0 15 (dk_at dksX0_write_2 10 rfl rfl)
theorem dX0_write_59 : decode cX0_write 59 = .ok (.invokevirtual 43, 3) := dk_182 0 43 (dk_at dksX0_write_2 13 rfl rfl)
theorem dX0_write_62 : decode cX0_write 62 = .ok (.ireturn, 1) := dk_172 (dk_at dksX0_write_2 16 rfl rfl)
abbrev cX0_whole : ByteArray := prog_2_method_5_code
def yX0_whole : MethodName := ⟨RX0, "whole", "(I)I"⟩
def dkwX0_whole_1 : List UInt8 := [180, 0, 15, 182, 0, 43, 112, 182, 0, 47, 172]
abbrev dktX0_whole_1 : List UInt8 := dkwX0_whole_1 ++ []
def dkwX0_whole_0 : List UInt8 := [42, 180, 0, 15, 182, 0, 43, 154, 0, 7, 2, 167, 0, 22, 42, 180, 0, 15, 27, 18, 19, 126, 42]
abbrev dktX0_whole_0 : List UInt8 := dkwX0_whole_0 ++ dktX0_whole_1
theorem dksX0_whole_0 : cX0_whole.data.toList.drop 0 = dktX0_whole_0 := by decide +kernel
theorem dksX0_whole_1 : cX0_whole.data.toList.drop 23 = dktX0_whole_1 := dk_seg dksX0_whole_0 23 rfl rfl
theorem dX0_whole_0 : decode cX0_whole 0 = .ok (.aload_n 0, 1) := dk_42 (dk_at dksX0_whole_0 0 rfl rfl)
theorem dX0_whole_1 : decode cX0_whole 1 = .ok (.getfield 15, 3) := dk_180 0 15 (dk_at dksX0_whole_0 1 rfl rfl)
theorem dX0_whole_4 : decode cX0_whole 4 = .ok (.invokevirtual 43, 3) := dk_182 0 43 (dk_at dksX0_whole_0 4 rfl rfl)
theorem dX0_whole_7 : decode cX0_whole 7 = .ok (.ifCond .ne 7, 3) := dk_154 0 7 (dk_at dksX0_whole_0 7 rfl rfl)
theorem dX0_whole_10 : decode cX0_whole 10 = .ok (.iconst (-1), 1) := dk_2 (dk_at dksX0_whole_0 10 rfl rfl)
theorem dX0_whole_11 : decode cX0_whole 11 = .ok (.goto 22, 3) := dk_167 0 22 (dk_at dksX0_whole_0 11 rfl rfl)
theorem dX0_whole_14 : decode cX0_whole 14 = .ok (.aload_n 0, 1) := dk_42 (dk_at dksX0_whole_0 14 rfl rfl)
theorem dX0_whole_15 : decode cX0_whole 15 = .ok (.getfield 15, 3) := dk_180 0 15 (dk_at dksX0_whole_0 15 rfl rfl)
theorem dX0_whole_18 : decode cX0_whole 18 = .ok (.iload_n 1, 1) := dk_27 (dk_at dksX0_whole_0 18 rfl rfl)
theorem dX0_whole_19 : decode cX0_whole 19 = .ok (.ldc 19, 2) := dk_18 19 (dk_at dksX0_whole_0 19 rfl rfl)
theorem dX0_whole_21 : decode cX0_whole 21 = .ok (.iand, 1) := dk_126 (dk_at dksX0_whole_0 21 rfl rfl)
theorem dX0_whole_22 : decode cX0_whole 22 = .ok (.aload_n 0, 1) := dk_42 (dk_at dksX0_whole_0 22 rfl rfl)
theorem dX0_whole_23 : decode cX0_whole 23 = .ok (.getfield 15, 3) := dk_180 0 15 (dk_at dksX0_whole_1 0 rfl rfl)
theorem dX0_whole_26 : decode cX0_whole 26 = .ok (.invokevirtual 43, 3) := dk_182 0 43 (dk_at dksX0_whole_1 3 rfl rfl)
theorem dX0_whole_29 : decode cX0_whole 29 = .ok (.irem, 1) := dk_112 (dk_at dksX0_whole_1 6 rfl rfl)
theorem dX0_whole_30 : decode cX0_whole 30 = .ok (.invokevirtual 47, 3) := dk_182 0 47 (dk_at dksX0_whole_1 7 rfl rfl)
theorem dX0_whole_33 : decode cX0_whole 33 = .ok (.ireturn, 1) := dk_172 (dk_at dksX0_whole_1 10 rfl rfl)
theorem q2 : (Jvm.Cond.initialized "SquareParity") ∈ lw_all := lw_g (lw_at lw_m1 1 rfl) rfl
theorem q21 : (Jvm.Cond.instantiable "SquareParity" (2 : Nat)) ∈ lw_all := lw_g (lw_at lw_m1 20 rfl) rfl
theorem q23 : (Jvm.Cond.instanceMethod ({ cls := "SquareParity", name := "<init>", desc := "()V" } : Jvm.MethodName)) ∈ lw_all := lw_g (lw_at lw_m1 22 rfl) rfl
theorem q24 : (Jvm.Cond.code ({ cls := "SquareParity", name := "<init>", desc := "()V" } : Jvm.MethodName) prog_2_method_1_code (1 : Nat) (Option.none : Option Jvm.ClassFile.FieldType)) ∈ lw_all := lw_g (lw_at lw_m1 23 rfl) rfl
theorem q25 : (Jvm.Cond.methodLink "SquareParity" (1 : Nat) ({ cls := "java/lang/Object", name := "<init>", desc := "()V" } : Jvm.MethodName)) ∈ lw_all := lw_g (lw_at lw_m1 24 rfl) rfl
theorem q28 : (Jvm.Cond.stringRef "SquareParity" (13 : Nat) "") ∈ lw_tbl := lw_at lw_m1 27 rfl
theorem q29 : (Jvm.Cond.fieldLink "SquareParity" (7 : Nat) "SquareParity" "letters" "[C") ∈ lw_all := lw_g (lw_at lw_m1 28 rfl) rfl
theorem q30 : (Jvm.Cond.fieldLink "SquareParity" (15 : Nat) "SquareParity" "whole" "Ljava/lang/String;") ∈ lw_all := lw_g (lw_at lw_m1 29 rfl) rfl
theorem q31 : (Jvm.Cond.laysFinal "SquareParity" "SquareParity" "letters" "[C") ∈ lw_all := lw_g (lw_at lw_m1 30 rfl) rfl
theorem q32 : (Jvm.Cond.soleField "SquareParity" "letters") ∈ lw_all := lw_g (lw_at lw_m1 31 rfl) rfl
theorem q33 : (Jvm.Cond.lays "SquareParity" "SquareParity" "whole" "Ljava/lang/String;") ∈ lw_all := lw_g (lw_at lw_m1 32 rfl) rfl
theorem q34 : (Jvm.Cond.soleField "SquareParity" "whole") ∈ lw_all := lw_g (lw_at lw_m1 33 rfl) rfl
theorem q35 : (Jvm.Cond.superclass "SquareParity" "java/lang/Object") ∈ lw_all := lw_g (lw_at lw_m1 34 rfl) rfl
theorem q39 : (Jvm.Cond.instanceMethod ({ cls := "SquareParity", name := "letter", desc := "(II)V" } : Jvm.MethodName)) ∈ lw_all := lw_g (lw_at lw_m1 38 rfl) rfl
theorem q40 : (Jvm.Cond.selects "SquareParity" ({ cls := "SquareParity", name := "letter", desc := "(II)V" } : Jvm.MethodName) ({ cls := "SquareParity", name := "letter", desc := "(II)V" } : Jvm.MethodName)) ∈ lw_all := lw_g (lw_at lw_m1 39 rfl) rfl
theorem q41 : (Jvm.Cond.code ({ cls := "SquareParity", name := "letter", desc := "(II)V" } : Jvm.MethodName) prog_2_method_2_code (3 : Nat) (Option.none : Option Jvm.ClassFile.FieldType)) ∈ lw_all := lw_g (lw_at lw_m1 40 rfl) rfl
theorem q42 : (Jvm.Cond.constant "SquareParity" (19 : Nat) (2147483647 : Int32)) ∈ lw_all := lw_g (lw_at lw_m1 41 rfl) rfl
theorem q44 : (Jvm.Cond.instanceMethod ({ cls := "SquareParity", name := "fill", desc := "(II)V" } : Jvm.MethodName)) ∈ lw_all := lw_g (lw_at lw_m1 43 rfl) rfl
theorem q45 : (Jvm.Cond.selects "SquareParity" ({ cls := "SquareParity", name := "fill", desc := "(II)V" } : Jvm.MethodName) ({ cls := "SquareParity", name := "fill", desc := "(II)V" } : Jvm.MethodName)) ∈ lw_all := lw_g (lw_at lw_m1 44 rfl) rfl
theorem q46 : (Jvm.Cond.code ({ cls := "SquareParity", name := "fill", desc := "(II)V" } : Jvm.MethodName) prog_2_method_3_code (4 : Nat) (Option.none : Option Jvm.ClassFile.FieldType)) ∈ lw_all := lw_g (lw_at lw_m1 45 rfl) rfl
theorem q48 : (Jvm.Cond.instanceMethod ({ cls := "SquareParity", name := "write", desc := "(I)I" } : Jvm.MethodName)) ∈ lw_all := lw_g (lw_at lw_m1 47 rfl) rfl
theorem q49 : (Jvm.Cond.selects "SquareParity" ({ cls := "SquareParity", name := "write", desc := "(I)I" } : Jvm.MethodName) ({ cls := "SquareParity", name := "write", desc := "(I)I" } : Jvm.MethodName)) ∈ lw_all := lw_g (lw_at lw_m1 48 rfl) rfl
theorem q50 : (Jvm.Cond.code ({ cls := "SquareParity", name := "write", desc := "(I)I" } : Jvm.MethodName) prog_2_method_4_code (3 : Nat) (Option.some Jvm.ClassFile.FieldType.int)) ∈ lw_all := lw_g (lw_at lw_m1 49 rfl) rfl
theorem q51 : (Jvm.Cond.classLink "SquareParity" (20 : Nat) "java/lang/String") ∈ lw_all := lw_g (lw_at lw_m1 50 rfl) rfl
theorem q53 : (Jvm.Cond.fieldLink "SquareParity" (22 : Nat) "SquareParity" "ROOM" "[I") ∈ lw_all := lw_g (lw_at lw_m1 52 rfl) rfl
theorem q54 : (Jvm.Cond.laysStatic "SquareParity" "ROOM" "[I") ∈ lw_tbl := lw_at lw_m1 53 rfl
theorem q55 : (Jvm.Cond.methodLink "SquareParity" (26 : Nat) ({ cls := "java/lang/String", name := "<init>", desc := "([CII)V" } : Jvm.MethodName)) ∈ lw_all := lw_g (lw_at lw_m1 54 rfl) rfl
theorem q129 : (Jvm.Cond.classLink "SquareParity" (29 : Nat) "SymbolInfo") ∈ lw_all := lw_g (lw_at lw_m1 128 rfl) rfl
theorem q131 : (Jvm.Cond.fieldLink "SquareParity" (31 : Nat) "SquareParity" "CHECKS" "[I") ∈ lw_all := lw_g (lw_at lw_m1 130 rfl) rfl
theorem q132 : (Jvm.Cond.laysStatic "SquareParity" "CHECKS" "[I") ∈ lw_tbl := lw_at lw_m1 131 rfl
theorem q133 : (Jvm.Cond.methodLink "SquareParity" (34 : Nat) ({ cls := "SymbolInfo", name := "<init>", desc := "(ZIIIII)V" } : Jvm.MethodName)) ∈ lw_all := lw_g (lw_at lw_m1 132 rfl) rfl
theorem q165 : (Jvm.Cond.methodLink "SquareParity" (37 : Nat) ({ cls := "ErrorCorrection", name := "encodeECC200", desc := "(Ljava/lang/String;LSymbolInfo;)Ljava/lang/String;" } : Jvm.MethodName)) ∈ lw_all := lw_g (lw_at lw_m1 164 rfl) rfl
theorem q530 : (Jvm.Cond.methodLink "SquareParity" (43 : Nat) ({ cls := "java/lang/String", name := "length", desc := "()I" } : Jvm.MethodName)) ∈ lw_all := lw_g (lw_at lw_m3 49 rfl) rfl
theorem q533 : (Jvm.Cond.instanceMethod ({ cls := "SquareParity", name := "whole", desc := "(I)I" } : Jvm.MethodName)) ∈ lw_all := lw_g (lw_at lw_m3 52 rfl) rfl
theorem q534 : (Jvm.Cond.selects "SquareParity" ({ cls := "SquareParity", name := "whole", desc := "(I)I" } : Jvm.MethodName) ({ cls := "SquareParity", name := "whole", desc := "(I)I" } : Jvm.MethodName)) ∈ lw_all := lw_g (lw_at lw_m3 53 rfl) rfl
theorem q535 : (Jvm.Cond.code ({ cls := "SquareParity", name := "whole", desc := "(I)I" } : Jvm.MethodName) prog_2_method_5_code (2 : Nat) (Option.some Jvm.ClassFile.FieldType.int)) ∈ lw_all := lw_g (lw_at lw_m3 54 rfl) rfl
theorem q536 : (Jvm.Cond.methodLink "SquareParity" (47 : Nat) ({ cls := "java/lang/String", name := "charAt", desc := "(I)C" } : Jvm.MethodName)) ∈ lw_all := lw_g (lw_at lw_m3 55 rfl) rfl
theorem in_X0 : ∀ w ∈ wsX00, w ∈ lw_all := lw_in wsX00 [31, 33] (by decide +kernel) (by decide +kernel)
def RX1 : String := "SquareParityModel"
def TX1 : u_T := fun k => match k with
  | 0 => ("SquareParityModel", "letters", "[I", true)
  | _ => ("SquareParityModel", "whole", "[I", false)
def tyX1 : Nat → FieldType := fun k => match k with
  | 0 => .array .int
  | _ => .array .int
abbrev wsX10 : List Cond := u_ws RX1 TX1 2
theorem nmX1 : ∀ a, a < 2 → ∀ b, b < 2 → a ≠ b → (TX1 a).2.1 ≠ (TX1 b).2.1 := by decide +kernel
theorem tyX1_ok : ∀ k, k < 2 → parseFieldDescriptor (TX1 k).2.2.1 = some (tyX1 k) := by decide +kernel
abbrev cX1_init : ByteArray := prog_4_method_1_code
def yX1_init : MethodName := ⟨RX1, "<init>", "()V"⟩
def dkwX1_init_0 : List UInt8 := [42, 183, 0, 1, 42, 16, 62, 188, 10, 181, 0, 9, 42, 3, 188, 10, 181, 0, 13, 177]
abbrev dktX1_init_0 : List UInt8 := dkwX1_init_0 ++ []
theorem dksX1_init_0 : cX1_init.data.toList.drop 0 = dktX1_init_0 := by decide +kernel
theorem dX1_init_0 : decode cX1_init 0 = .ok (.aload_n 0, 1) := dk_42 (dk_at dksX1_init_0 0 rfl rfl)
theorem dX1_init_1 : decode cX1_init 1 = .ok (.invokespecial 1, 3) := dk_183 0 1 (dk_at dksX1_init_0 1 rfl rfl)
theorem dX1_init_4 : decode cX1_init 4 = .ok (.aload_n 0, 1) := dk_42 (dk_at dksX1_init_0 4 rfl rfl)
theorem dX1_init_5 : decode cX1_init 5 = .ok (.bipush 62, 2) := dk_16 62 (dk_at dksX1_init_0 5 rfl rfl)
theorem dX1_init_7 : decode cX1_init 7 = .ok (.newarray .int, 2) := dk_188_10 (dk_at dksX1_init_0 7 rfl rfl)
theorem dX1_init_9 : decode cX1_init 9 = .ok (.putfield 9, 3) := dk_181 0 9 (dk_at dksX1_init_0 9 rfl rfl)
theorem dX1_init_12 : decode cX1_init 12 = .ok (.aload_n 0, 1) := dk_42 (dk_at dksX1_init_0 12 rfl rfl)
theorem dX1_init_13 : decode cX1_init 13 = .ok (.iconst 0, 1) := dk_3 (dk_at dksX1_init_0 13 rfl rfl)
theorem dX1_init_14 : decode cX1_init 14 = .ok (.newarray .int, 2) := dk_188_10 (dk_at dksX1_init_0 14 rfl rfl)
theorem dX1_init_16 : decode cX1_init 16 = .ok (.putfield 13, 3) := dk_181 0 13 (dk_at dksX1_init_0 16 rfl rfl)
theorem dX1_init_19 : decode cX1_init 19 = .ok (.return_, 1) := dk_177 (dk_at dksX1_init_0 19 rfl rfl)
abbrev cX1_letter : ByteArray := prog_4_method_4_code
def yX1_letter : MethodName := ⟨RX1, "letter", "(II)V"⟩
def dkwX1_letter_0 : List UInt8 := [42, 180, 0, 9, 27, 18, 16, 126, 16, 62, 112, 28, 17, 0, 255, 126, 79, 177]
abbrev dktX1_letter_0 : List UInt8 := dkwX1_letter_0 ++ []
theorem dksX1_letter_0 : cX1_letter.data.toList.drop 0 = dktX1_letter_0 := by decide +kernel
theorem dX1_letter_0 : decode cX1_letter 0 = .ok (.aload_n 0, 1) := dk_42 (dk_at dksX1_letter_0 0 rfl rfl)
theorem dX1_letter_1 : decode cX1_letter 1 = .ok (.getfield 9, 3) := dk_180 0 9 (dk_at dksX1_letter_0 1 rfl rfl)
theorem dX1_letter_4 : decode cX1_letter 4 = .ok (.iload_n 1, 1) := dk_27 (dk_at dksX1_letter_0 4 rfl rfl)
theorem dX1_letter_5 : decode cX1_letter 5 = .ok (.ldc 16, 2) := dk_18 16 (dk_at dksX1_letter_0 5 rfl rfl)
theorem dX1_letter_7 : decode cX1_letter 7 = .ok (.iand, 1) := dk_126 (dk_at dksX1_letter_0 7 rfl rfl)
theorem dX1_letter_8 : decode cX1_letter 8 = .ok (.bipush 62, 2) := dk_16 62 (dk_at dksX1_letter_0 8 rfl rfl)
theorem dX1_letter_10 : decode cX1_letter 10 = .ok (.irem, 1) := dk_112 (dk_at dksX1_letter_0 10 rfl rfl)
theorem dX1_letter_11 : decode cX1_letter 11 = .ok (.iload_n 2, 1) := dk_28 (dk_at dksX1_letter_0 11 rfl rfl)
theorem dX1_letter_12 : decode cX1_letter 12 = .ok (.sipush 255, 3) := dk_17 0 255 (dk_at dksX1_letter_0 12 rfl rfl)
theorem dX1_letter_15 : decode cX1_letter 15 = .ok (.iand, 1) := dk_126 (dk_at dksX1_letter_0 15 rfl rfl)
theorem dX1_letter_16 : decode cX1_letter 16 = .ok (.iastore, 1) := dk_79 (dk_at dksX1_letter_0 16 rfl rfl)
theorem dX1_letter_17 : decode cX1_letter 17 = .ok (.return_, 1) := dk_177 (dk_at dksX1_letter_0 17 rfl rfl)
abbrev cX1_fill : ByteArray := prog_4_method_5_code
def yX1_fill : MethodName := ⟨RX1, "fill", "(II)V"⟩
def dkwX1_fill_1 : List UInt8 := [132, 3, 1, 167, 255, 232, 177]
abbrev dktX1_fill_1 : List UInt8 := dkwX1_fill_1 ++ []
def dkwX1_fill_0 : List UInt8 := [3, 62, 29, 16, 62, 162, 0, 24, 42, 180, 0, 9, 29, 27, 28, 29, 104, 96, 17, 0, 255, 126, 79]
abbrev dktX1_fill_0 : List UInt8 := dkwX1_fill_0 ++ dktX1_fill_1
theorem dksX1_fill_0 : cX1_fill.data.toList.drop 0 = dktX1_fill_0 := by decide +kernel
theorem dksX1_fill_1 : cX1_fill.data.toList.drop 23 = dktX1_fill_1 := dk_seg dksX1_fill_0 23 rfl rfl
theorem dX1_fill_0 : decode cX1_fill 0 = .ok (.iconst 0, 1) := dk_3 (dk_at dksX1_fill_0 0 rfl rfl)
theorem dX1_fill_1 : decode cX1_fill 1 = .ok (.istore_n 3, 1) := dk_62 (dk_at dksX1_fill_0 1 rfl rfl)
theorem dX1_fill_2 : decode cX1_fill 2 = .ok (.iload_n 3, 1) := dk_29 (dk_at dksX1_fill_0 2 rfl rfl)
theorem dX1_fill_3 : decode cX1_fill 3 = .ok (.bipush 62, 2) := dk_16 62 (dk_at dksX1_fill_0 3 rfl rfl)
theorem dX1_fill_5 : decode cX1_fill 5 = .ok (.if_icmp .ge 24, 3) := dk_162 0 24 (dk_at dksX1_fill_0 5 rfl rfl)
theorem dX1_fill_8 : decode cX1_fill 8 = .ok (.aload_n 0, 1) := dk_42 (dk_at dksX1_fill_0 8 rfl rfl)
theorem dX1_fill_9 : decode cX1_fill 9 = .ok (.getfield 9, 3) := dk_180 0 9 (dk_at dksX1_fill_0 9 rfl rfl)
theorem dX1_fill_12 : decode cX1_fill 12 = .ok (.iload_n 3, 1) := dk_29 (dk_at dksX1_fill_0 12 rfl rfl)
theorem dX1_fill_13 : decode cX1_fill 13 = .ok (.iload_n 1, 1) := dk_27 (dk_at dksX1_fill_0 13 rfl rfl)
theorem dX1_fill_14 : decode cX1_fill 14 = .ok (.iload_n 2, 1) := dk_28 (dk_at dksX1_fill_0 14 rfl rfl)
theorem dX1_fill_15 : decode cX1_fill 15 = .ok (.iload_n 3, 1) := dk_29 (dk_at dksX1_fill_0 15 rfl rfl)
theorem dX1_fill_16 : decode cX1_fill 16 = .ok (.imul, 1) := dk_104 (dk_at dksX1_fill_0 16 rfl rfl)
theorem dX1_fill_17 : decode cX1_fill 17 = .ok (.iadd, 1) := dk_96 (dk_at dksX1_fill_0 17 rfl rfl)
theorem dX1_fill_18 : decode cX1_fill 18 = .ok (.sipush 255, 3) := dk_17 0 255 (dk_at dksX1_fill_0 18 rfl rfl)
theorem dX1_fill_21 : decode cX1_fill 21 = .ok (.iand, 1) := dk_126 (dk_at dksX1_fill_0 21 rfl rfl)
theorem dX1_fill_22 : decode cX1_fill 22 = .ok (.iastore, 1) := dk_79 (dk_at dksX1_fill_0 22 rfl rfl)
theorem dX1_fill_23 : decode cX1_fill 23 = .ok (.iinc 3 1, 3) := dk_132 3 1 (dk_at dksX1_fill_1 0 rfl rfl)
theorem dX1_fill_26 : decode cX1_fill 26 = .ok (.goto (-24), 3) := dk_167 255 232 (dk_at dksX1_fill_1 3 rfl rfl)
theorem dX1_fill_29 : decode cX1_fill 29 = .ok (.return_, 1) := dk_177 (dk_at dksX1_fill_1 6 rfl rfl)
abbrev cX1_write : ByteArray := prog_4_method_8_code
def yX1_write : MethodName := ⟨RX1, "write", "(I)I"⟩
def dkwX1_write_7 : List UInt8 := [167, 255, 235, 42, 25, 7, 181, 0, 13, 25, 7, 190, 172]
abbrev dktX1_write_7 : List UInt8 := dkwX1_write_7 ++ []
def dkwX1_write_6 : List UInt8 := [54, 8, 21, 8, 25, 7, 190, 162, 0, 19, 25, 7, 21, 8, 25, 6, 21, 8, 46, 79, 132, 8, 1]
abbrev dktX1_write_6 : List UInt8 := dkwX1_write_6 ++ dktX1_write_7
def dkwX1_write_5 : List UInt8 := [25, 5, 21, 10, 46, 184, 0, 17, 130, 79, 132, 10, 1, 167, 255, 225, 132, 8, 1, 167, 255, 203, 29]
abbrev dktX1_write_5 : List UInt8 := dkwX1_write_5 ++ dktX1_write_6
def dkwX1_write_4 : List UInt8 := [54, 9, 3, 54, 10, 21, 10, 21, 4, 163, 0, 30, 25, 6, 21, 8, 21, 10, 96, 92, 46, 21, 9]
abbrev dktX1_write_4 : List UInt8 := dkwX1_write_4 ++ dktX1_write_5
def dkwX1_write_3 : List UInt8 := [21, 8, 46, 79, 132, 8, 1, 167, 255, 223, 3, 54, 8, 21, 8, 29, 162, 0, 53, 25, 6, 21, 8, 46]
abbrev dktX1_write_3 : List UInt8 := dkwX1_write_3 ++ dktX1_write_4
def dkwX1_write_2 : List UInt8 := [162, 0, 33, 25, 6, 21, 8, 42, 180, 0, 9, 21, 8, 46, 79, 25, 7, 21, 8, 42, 180, 0, 9]
abbrev dktX1_write_2 : List UInt8 := dkwX1_write_2 ++ dktX1_write_3
def dkwX1_write_1 : List UInt8 := [58, 5, 29, 21, 4, 96, 188, 10, 58, 6, 29, 21, 4, 96, 188, 10, 58, 7, 3, 54, 8, 21, 8, 29]
abbrev dktX1_write_1 : List UInt8 := dkwX1_write_1 ++ dktX1_write_2
def dkwX1_write_0 : List UInt8 := [27, 18, 16, 126, 16, 10, 112, 61, 28, 184, 0, 21, 62, 28, 184, 0, 25, 54, 4, 21, 4, 184, 0, 28]
abbrev dktX1_write_0 : List UInt8 := dkwX1_write_0 ++ dktX1_write_1
theorem dksX1_write_0 : cX1_write.data.toList.drop 0 = dktX1_write_0 := by decide +kernel
theorem dksX1_write_1 : cX1_write.data.toList.drop 24 = dktX1_write_1 := dk_seg dksX1_write_0 24 rfl rfl
theorem dksX1_write_2 : cX1_write.data.toList.drop 48 = dktX1_write_2 := dk_seg dksX1_write_1 24 rfl rfl
theorem dksX1_write_3 : cX1_write.data.toList.drop 71 = dktX1_write_3 := dk_seg dksX1_write_2 23 rfl rfl
theorem dksX1_write_4 : cX1_write.data.toList.drop 95 = dktX1_write_4 := dk_seg dksX1_write_3 24 rfl rfl
theorem dksX1_write_5 : cX1_write.data.toList.drop 118 = dktX1_write_5 := dk_seg dksX1_write_4 23 rfl rfl
theorem dksX1_write_6 : cX1_write.data.toList.drop 141 = dktX1_write_6 := dk_seg dksX1_write_5 23 rfl rfl
theorem dksX1_write_7 : cX1_write.data.toList.drop 164 = dktX1_write_7 := dk_seg dksX1_write_6 23 rfl rfl
theorem dX1_write_0 : decode cX1_write 0 = .ok (.iload_n 1, 1) := dk_27 (dk_at dksX1_write_0 0 rfl rfl)
theorem dX1_write_1 : decode cX1_write 1 = .ok (.ldc 16, 2) := dk_18 16 (dk_at dksX1_write_0 1 rfl rfl)
theorem dX1_write_3 : decode cX1_write 3 = .ok (.iand, 1) := dk_126 (dk_at dksX1_write_0 3 rfl rfl)
theorem dX1_write_4 : decode cX1_write 4 = .ok (.bipush 10, 2) := dk_16 10 (dk_at dksX1_write_0 4 rfl rfl)
theorem dX1_write_6 : decode cX1_write 6 = .ok (.irem, 1) := dk_112 (dk_at dksX1_write_0 6 rfl rfl)
theorem dX1_write_7 : decode cX1_write 7 = .ok (.istore_n 2, 1) := dk_61 (dk_at dksX1_write_0 7 rfl rfl)
theorem dX1_write_8 : decode cX1_write 8 = .ok (.iload_n 2, 1) := dk_28 (dk_at dksX1_write_0 8 rfl rfl)
theorem dX1_write_9 : decode cX1_write 9 = .ok (.invokestatic 21, 3) := dk_184 0 21 (dk_at dksX1_write_0 9 rfl rfl)
theorem dX1_write_12 : decode cX1_write 12 = .ok (.istore_n 3, 1) := dk_62 (dk_at dksX1_write_0 12 rfl rfl)
theorem dX1_write_13 : decode cX1_write 13 = .ok (.iload_n 2, 1) := dk_28 (dk_at dksX1_write_0 13 rfl rfl)
theorem dX1_write_14 : decode cX1_write 14 = .ok (.invokestatic 25, 3) := dk_184 0 25 (dk_at dksX1_write_0 14 rfl rfl)
theorem dX1_write_17 : decode cX1_write 17 = .ok (.istore 4, 2) := dk_54 4 (dk_at dksX1_write_0 17 rfl rfl)
theorem dX1_write_19 : decode cX1_write 19 = .ok (.iload 4, 2) := dk_21 4 (dk_at dksX1_write_0 19 rfl rfl)
theorem dX1_write_21 : decode cX1_write 21 = .ok (.invokestatic 28, 3) := dk_184 0 28 (dk_at dksX1_write_0 21 rfl rfl)
theorem dX1_write_24 : decode cX1_write 24 = .ok (.astore 5, 2) := dk_58 5 (dk_at dksX1_write_1 0 rfl rfl)
theorem dX1_write_26 : decode cX1_write 26 = .ok (.iload_n 3, 1) := dk_29 (dk_at dksX1_write_1 2 rfl rfl)
theorem dX1_write_27 : decode cX1_write 27 = .ok (.iload 4, 2) := dk_21 4 (dk_at dksX1_write_1 3 rfl rfl)
theorem dX1_write_29 : decode cX1_write 29 = .ok (.iadd, 1) := dk_96 (dk_at dksX1_write_1 5 rfl rfl)
theorem dX1_write_30 : decode cX1_write 30 = .ok (.newarray .int, 2) := dk_188_10 (dk_at dksX1_write_1 6 rfl rfl)
theorem dX1_write_32 : decode cX1_write 32 = .ok (.astore 6, 2) := dk_58 6 (dk_at dksX1_write_1 8 rfl rfl)
theorem dX1_write_34 : decode cX1_write 34 = .ok (.iload_n 3, 1) := dk_29 (dk_at dksX1_write_1 10 rfl rfl)
theorem dX1_write_35 : decode cX1_write 35 = .ok (.iload 4, 2) := dk_21 4 (dk_at dksX1_write_1 11 rfl rfl)
theorem dX1_write_37 : decode cX1_write 37 = .ok (.iadd, 1) := dk_96 (dk_at dksX1_write_1 13 rfl rfl)
theorem dX1_write_38 : decode cX1_write 38 = .ok (.newarray .int, 2) := dk_188_10 (dk_at dksX1_write_1 14 rfl rfl)
theorem dX1_write_40 : decode cX1_write 40 = .ok (.astore 7, 2) := dk_58 7 (dk_at dksX1_write_1 16 rfl rfl)
theorem dX1_write_42 : decode cX1_write 42 = .ok (.iconst 0, 1) := dk_3 (dk_at dksX1_write_1 18 rfl rfl)
theorem dX1_write_43 : decode cX1_write 43 = .ok (.istore 8, 2) := dk_54 8 (dk_at dksX1_write_1 19 rfl rfl)
theorem dX1_write_45 : decode cX1_write 45 = .ok (.iload 8, 2) := dk_21 8 (dk_at dksX1_write_1 21 rfl rfl)
theorem dX1_write_47 : decode cX1_write 47 = .ok (.iload_n 3, 1) := dk_29 (dk_at dksX1_write_1 23 rfl rfl)
theorem dX1_write_48 : decode cX1_write 48 = .ok (.if_icmp .ge 33, 3) := dk_162 0 33 (dk_at dksX1_write_2 0 rfl rfl)
theorem dX1_write_51 : decode cX1_write 51 = .ok (.aload 6, 2) := dk_25 6 (dk_at dksX1_write_2 3 rfl rfl)
theorem dX1_write_53 : decode cX1_write 53 = .ok (.iload 8, 2) := dk_21 8 (dk_at dksX1_write_2 5 rfl rfl)
theorem dX1_write_55 : decode cX1_write 55 = .ok (.aload_n 0, 1) := dk_42 (dk_at dksX1_write_2 7 rfl rfl)
theorem dX1_write_56 : decode cX1_write 56 = .ok (.getfield 9, 3) := dk_180 0 9 (dk_at dksX1_write_2 8 rfl rfl)
theorem dX1_write_59 : decode cX1_write 59 = .ok (.iload 8, 2) := dk_21 8 (dk_at dksX1_write_2 11 rfl rfl)
theorem dX1_write_61 : decode cX1_write 61 = .ok (.iaload, 1) := dk_46 (dk_at dksX1_write_2 13 rfl rfl)
theorem dX1_write_62 : decode cX1_write 62 = .ok (.iastore, 1) := dk_79 (dk_at dksX1_write_2 14 rfl rfl)
theorem dX1_write_63 : decode cX1_write 63 = .ok (.aload 7, 2) := dk_25 7 (dk_at dksX1_write_2 15 rfl rfl)
theorem dX1_write_65 : decode cX1_write 65 = .ok (.iload 8, 2) := dk_21 8 (dk_at dksX1_write_2 17 rfl rfl)
theorem dX1_write_67 : decode cX1_write 67 = .ok (.aload_n 0, 1) := dk_42 (dk_at dksX1_write_2 19 rfl rfl)
theorem dX1_write_68 : decode cX1_write 68 = .ok (.getfield 9, 3) := dk_180 0 9 (dk_at dksX1_write_2 20 rfl rfl)
theorem dX1_write_71 : decode cX1_write 71 = .ok (.iload 8, 2) := dk_21 8 (dk_at dksX1_write_3 0 rfl rfl)
theorem dX1_write_73 : decode cX1_write 73 = .ok (.iaload, 1) := dk_46 (dk_at dksX1_write_3 2 rfl rfl)
theorem dX1_write_74 : decode cX1_write 74 = .ok (.iastore, 1) := dk_79 (dk_at dksX1_write_3 3 rfl rfl)
theorem dX1_write_75 : decode cX1_write 75 = .ok (.iinc 8 1, 3) := dk_132 8 1 (dk_at dksX1_write_3 4 rfl rfl)
theorem dX1_write_78 : decode cX1_write 78 = .ok (.goto (-33), 3) := dk_167 255 223 (dk_at dksX1_write_3 7 rfl rfl)
theorem dX1_write_81 : decode cX1_write 81 = .ok (.iconst 0, 1) := dk_3 (dk_at dksX1_write_3 10 rfl rfl)
theorem dX1_write_82 : decode cX1_write 82 = .ok (.istore 8, 2) := dk_54 8 (dk_at dksX1_write_3 11 rfl rfl)
theorem dX1_write_84 : decode cX1_write 84 = .ok (.iload 8, 2) := dk_21 8 (dk_at dksX1_write_3 13 rfl rfl)
theorem dX1_write_86 : decode cX1_write 86 = .ok (.iload_n 3, 1) := dk_29 (dk_at dksX1_write_3 15 rfl rfl)
theorem dX1_write_87 : decode cX1_write 87 = .ok (.if_icmp .ge 53, 3) := dk_162 0 53 (dk_at dksX1_write_3 16 rfl rfl)
theorem dX1_write_90 : decode cX1_write 90 = .ok (.aload 6, 2) := dk_25 6 (dk_at dksX1_write_3 19 rfl rfl)
theorem dX1_write_92 : decode cX1_write 92 = .ok (.iload 8, 2) := dk_21 8 (dk_at dksX1_write_3 21 rfl rfl)
theorem dX1_write_94 : decode cX1_write 94 = .ok (.iaload, 1) := dk_46 (dk_at dksX1_write_3 23 rfl rfl)
theorem dX1_write_95 : decode cX1_write 95 = .ok (.istore 9, 2) := dk_54 9 (dk_at dksX1_write_4 0 rfl rfl)
theorem dX1_write_97 : decode cX1_write 97 = .ok (.iconst 0, 1) := dk_3 (dk_at dksX1_write_4 2 rfl rfl)
theorem dX1_write_98 : decode cX1_write 98 = .ok (.istore 10, 2) := dk_54 10 (dk_at dksX1_write_4 3 rfl rfl)
theorem dX1_write_100 : decode cX1_write 100 = .ok (.iload 10, 2) := dk_21 10 (dk_at dksX1_write_4 5 rfl rfl)
theorem dX1_write_102 : decode cX1_write 102 = .ok (.iload 4, 2) := dk_21 4 (dk_at dksX1_write_4 7 rfl rfl)
theorem dX1_write_104 : decode cX1_write 104 = .ok (.if_icmp .gt 30, 3) := dk_163 0 30 (dk_at dksX1_write_4 9 rfl rfl)
theorem dX1_write_107 : decode cX1_write 107 = .ok (.aload 6, 2) := dk_25 6 (dk_at dksX1_write_4 12 rfl rfl)
theorem dX1_write_109 : decode cX1_write 109 = .ok (.iload 8, 2) := dk_21 8 (dk_at dksX1_write_4 14 rfl rfl)
theorem dX1_write_111 : decode cX1_write 111 = .ok (.iload 10, 2) := dk_21 10 (dk_at dksX1_write_4 16 rfl rfl)
theorem dX1_write_113 : decode cX1_write 113 = .ok (.iadd, 1) := dk_96 (dk_at dksX1_write_4 18 rfl rfl)
theorem dX1_write_114 : decode cX1_write 114 = .ok (.dup2, 1) := dk_92 (dk_at dksX1_write_4 19 rfl rfl)
theorem dX1_write_115 : decode cX1_write 115 = .ok (.iaload, 1) := dk_46 (dk_at dksX1_write_4 20 rfl rfl)
theorem dX1_write_116 : decode cX1_write 116 = .ok (.iload 9, 2) := dk_21 9 (dk_at dksX1_write_4 21 rfl rfl)
theorem dX1_write_118 : decode cX1_write 118 = .ok (.aload 5, 2) := dk_25 5 (dk_at dksX1_write_5 0 rfl rfl)
theorem dX1_write_120 : decode cX1_write 120 = .ok (.iload 10, 2) := dk_21 10 (dk_at dksX1_write_5 2 rfl rfl)
theorem dX1_write_122 : decode cX1_write 122 = .ok (.iaload, 1) := dk_46 (dk_at dksX1_write_5 4 rfl rfl)
theorem dX1_write_123 : decode cX1_write 123 = .ok (.invokestatic 17, 3) := dk_184 0 17 (dk_at dksX1_write_5 5 rfl rfl)
theorem dX1_write_126 : decode cX1_write 126 = .ok (.ixor, 1) := dk_130 (dk_at dksX1_write_5 8 rfl rfl)
theorem dX1_write_127 : decode cX1_write 127 = .ok (.iastore, 1) := dk_79 (dk_at dksX1_write_5 9 rfl rfl)
theorem dX1_write_128 : decode cX1_write 128 = .ok (.iinc 10 1, 3) := dk_132 10 1 (dk_at dksX1_write_5 10 rfl rfl)
theorem dX1_write_131 : decode cX1_write 131 = .ok (.goto (-31), 3) := dk_167 255 225 (dk_at dksX1_write_5 13 rfl rfl)
theorem dX1_write_134 : decode cX1_write 134 = .ok (.iinc 8 1, 3) := dk_132 8 1 (dk_at dksX1_write_5 16 rfl rfl)
theorem dX1_write_137 : decode cX1_write 137 = .ok (.goto (-53), 3) := dk_167 255 203 (dk_at dksX1_write_5 19 rfl rfl)
theorem dX1_write_140 : decode cX1_write 140 = .ok (.iload_n 3, 1) := dk_29 (dk_at dksX1_write_5 22 rfl rfl)
theorem dX1_write_141 : decode cX1_write 141 = .ok (.istore 8, 2) := dk_54 8 (dk_at dksX1_write_6 0 rfl rfl)
theorem dX1_write_143 : decode cX1_write 143 = .ok (.iload 8, 2) := dk_21 8 (dk_at dksX1_write_6 2 rfl rfl)
theorem dX1_write_145 : decode cX1_write 145 = .ok (.aload 7, 2) := dk_25 7 (dk_at dksX1_write_6 4 rfl rfl)
theorem dX1_write_147 : decode cX1_write 147 = .ok (.arraylength, 1) := dk_190 (dk_at dksX1_write_6 6 rfl rfl)
theorem dX1_write_148 : decode cX1_write 148 = .ok (.if_icmp .ge 19, 3) := dk_162 0 19 (dk_at dksX1_write_6 7 rfl rfl)
theorem dX1_write_151 : decode cX1_write 151 = .ok (.aload 7, 2) := dk_25 7 (dk_at dksX1_write_6 10 rfl rfl)
theorem dX1_write_153 : decode cX1_write 153 = .ok (.iload 8, 2) := dk_21 8 (dk_at dksX1_write_6 12 rfl rfl)
theorem dX1_write_155 : decode cX1_write 155 = .ok (.aload 6, 2) := dk_25 6 (dk_at dksX1_write_6 14 rfl rfl)
theorem dX1_write_157 : decode cX1_write 157 = .ok (.iload 8, 2) := dk_21 8 (dk_at dksX1_write_6 16 rfl rfl)
theorem dX1_write_159 : decode cX1_write 159 = .ok (.iaload, 1) := dk_46 (dk_at dksX1_write_6 18 rfl rfl)
theorem dX1_write_160 : decode cX1_write 160 = .ok (.iastore, 1) := dk_79 (dk_at dksX1_write_6 19 rfl rfl)
theorem dX1_write_161 : decode cX1_write 161 = .ok (.iinc 8 1, 3) := dk_132 8 1 (dk_at dksX1_write_6 20 rfl rfl)
theorem dX1_write_164 : decode cX1_write 164 = .ok (.goto (-21), 3) := dk_167 255 235 (dk_at dksX1_write_7 0 rfl rfl)
theorem dX1_write_167 : decode cX1_write 167 = .ok (.aload_n 0, 1) := dk_42 (dk_at dksX1_write_7 3 rfl rfl)
theorem dX1_write_168 : decode cX1_write 168 = .ok (.aload 7, 2) := dk_25 7 (dk_at dksX1_write_7 4 rfl rfl)
theorem dX1_write_170 : decode cX1_write 170 = .ok (.putfield 13, 3) := dk_181 0 13 (dk_at dksX1_write_7 6 rfl rfl)
theorem dX1_write_173 : decode cX1_write 173 = .ok (.aload 7, 2) := dk_25 7 (dk_at dksX1_write_7 9 rfl rfl)
theorem dX1_write_175 : decode cX1_write 175 = .ok (.arraylength, 1) := dk_190 (dk_at dksX1_write_7 11 rfl rfl)
theorem dX1_write_176 : decode cX1_write 176 = .ok (.ireturn, 1) := dk_172 (dk_at dksX1_write_7 12 rfl rfl)
abbrev cX1_room : ByteArray := prog_4_method_2_code
def yX1_room : MethodName := ⟨RX1, "room", "(I)I"⟩
def dkwX1_room_2 : List UInt8 := [16, 44, 79, 89, 16, 9, 16, 62, 79, 76, 43, 26, 46, 172]
abbrev dktX1_room_2 : List UInt8 := dkwX1_room_2 ++ []
def dkwX1_room_1 : List UInt8 := [16, 18, 79, 89, 8, 16, 22, 79, 89, 16, 6, 16, 30, 79, 89, 16, 7, 16, 36, 79, 89, 16, 8]
abbrev dktX1_room_1 : List UInt8 := dkwX1_room_1 ++ dktX1_room_2
def dkwX1_room_0 : List UInt8 := [16, 10, 188, 10, 89, 3, 6, 79, 89, 4, 8, 79, 89, 5, 16, 8, 79, 89, 6, 16, 12, 79, 89, 7]
abbrev dktX1_room_0 : List UInt8 := dkwX1_room_0 ++ dktX1_room_1
theorem dksX1_room_0 : cX1_room.data.toList.drop 0 = dktX1_room_0 := by decide +kernel
theorem dksX1_room_1 : cX1_room.data.toList.drop 24 = dktX1_room_1 := dk_seg dksX1_room_0 24 rfl rfl
theorem dksX1_room_2 : cX1_room.data.toList.drop 47 = dktX1_room_2 := dk_seg dksX1_room_1 23 rfl rfl
theorem dX1_room_0 : decode cX1_room 0 = .ok (.bipush 10, 2) := dk_16 10 (dk_at dksX1_room_0 0 rfl rfl)
theorem dX1_room_2 : decode cX1_room 2 = .ok (.newarray .int, 2) := dk_188_10 (dk_at dksX1_room_0 2 rfl rfl)
theorem dX1_room_4 : decode cX1_room 4 = .ok (.dup, 1) := dk_89 (dk_at dksX1_room_0 4 rfl rfl)
theorem dX1_room_5 : decode cX1_room 5 = .ok (.iconst 0, 1) := dk_3 (dk_at dksX1_room_0 5 rfl rfl)
theorem dX1_room_6 : decode cX1_room 6 = .ok (.iconst 3, 1) := dk_6 (dk_at dksX1_room_0 6 rfl rfl)
theorem dX1_room_7 : decode cX1_room 7 = .ok (.iastore, 1) := dk_79 (dk_at dksX1_room_0 7 rfl rfl)
theorem dX1_room_8 : decode cX1_room 8 = .ok (.dup, 1) := dk_89 (dk_at dksX1_room_0 8 rfl rfl)
theorem dX1_room_9 : decode cX1_room 9 = .ok (.iconst 1, 1) := dk_4 (dk_at dksX1_room_0 9 rfl rfl)
theorem dX1_room_10 : decode cX1_room 10 = .ok (.iconst 5, 1) := dk_8 (dk_at dksX1_room_0 10 rfl rfl)
theorem dX1_room_11 : decode cX1_room 11 = .ok (.iastore, 1) := dk_79 (dk_at dksX1_room_0 11 rfl rfl)
theorem dX1_room_12 : decode cX1_room 12 = .ok (.dup, 1) := dk_89 (dk_at dksX1_room_0 12 rfl rfl)
theorem dX1_room_13 : decode cX1_room 13 = .ok (.iconst 2, 1) := dk_5 (dk_at dksX1_room_0 13 rfl rfl)
theorem dX1_room_14 : decode cX1_room 14 = .ok (.bipush 8, 2) := dk_16 8 (dk_at dksX1_room_0 14 rfl rfl)
theorem dX1_room_16 : decode cX1_room 16 = .ok (.iastore, 1) := dk_79 (dk_at dksX1_room_0 16 rfl rfl)
theorem dX1_room_17 : decode cX1_room 17 = .ok (.dup, 1) := dk_89 (dk_at dksX1_room_0 17 rfl rfl)
theorem dX1_room_18 : decode cX1_room 18 = .ok (.iconst 3, 1) := dk_6 (dk_at dksX1_room_0 18 rfl rfl)
theorem dX1_room_19 : decode cX1_room 19 = .ok (.bipush 12, 2) := dk_16 12 (dk_at dksX1_room_0 19 rfl rfl)
theorem dX1_room_21 : decode cX1_room 21 = .ok (.iastore, 1) := dk_79 (dk_at dksX1_room_0 21 rfl rfl)
theorem dX1_room_22 : decode cX1_room 22 = .ok (.dup, 1) := dk_89 (dk_at dksX1_room_0 22 rfl rfl)
theorem dX1_room_23 : decode cX1_room 23 = .ok (.iconst 4, 1) := dk_7 (dk_at dksX1_room_0 23 rfl rfl)
theorem dX1_room_24 : decode cX1_room 24 = .ok (.bipush 18, 2) := dk_16 18 (dk_at dksX1_room_1 0 rfl rfl)
theorem dX1_room_26 : decode cX1_room 26 = .ok (.iastore, 1) := dk_79 (dk_at dksX1_room_1 2 rfl rfl)
theorem dX1_room_27 : decode cX1_room 27 = .ok (.dup, 1) := dk_89 (dk_at dksX1_room_1 3 rfl rfl)
theorem dX1_room_28 : decode cX1_room 28 = .ok (.iconst 5, 1) := dk_8 (dk_at dksX1_room_1 4 rfl rfl)
theorem dX1_room_29 : decode cX1_room 29 = .ok (.bipush 22, 2) := dk_16 22 (dk_at dksX1_room_1 5 rfl rfl)
theorem dX1_room_31 : decode cX1_room 31 = .ok (.iastore, 1) := dk_79 (dk_at dksX1_room_1 7 rfl rfl)
theorem dX1_room_32 : decode cX1_room 32 = .ok (.dup, 1) := dk_89 (dk_at dksX1_room_1 8 rfl rfl)
theorem dX1_room_33 : decode cX1_room 33 = .ok (.bipush 6, 2) := dk_16 6 (dk_at dksX1_room_1 9 rfl rfl)
theorem dX1_room_35 : decode cX1_room 35 = .ok (.bipush 30, 2) := dk_16 30 (dk_at dksX1_room_1 11 rfl rfl)
theorem dX1_room_37 : decode cX1_room 37 = .ok (.iastore, 1) := dk_79 (dk_at dksX1_room_1 13 rfl rfl)
theorem dX1_room_38 : decode cX1_room 38 = .ok (.dup, 1) := dk_89 (dk_at dksX1_room_1 14 rfl rfl)
theorem dX1_room_39 : decode cX1_room 39 = .ok (.bipush 7, 2) := dk_16 7 (dk_at dksX1_room_1 15 rfl rfl)
theorem dX1_room_41 : decode cX1_room 41 = .ok (.bipush 36, 2) := dk_16 36 (dk_at dksX1_room_1 17 rfl rfl)
theorem dX1_room_43 : decode cX1_room 43 = .ok (.iastore, 1) := dk_79 (dk_at dksX1_room_1 19 rfl rfl)
theorem dX1_room_44 : decode cX1_room 44 = .ok (.dup, 1) := dk_89 (dk_at dksX1_room_1 20 rfl rfl)
theorem dX1_room_45 : decode cX1_room 45 = .ok (.bipush 8, 2) := dk_16 8 (dk_at dksX1_room_1 21 rfl rfl)
theorem dX1_room_47 : decode cX1_room 47 = .ok (.bipush 44, 2) := dk_16 44 (dk_at dksX1_room_2 0 rfl rfl)
theorem dX1_room_49 : decode cX1_room 49 = .ok (.iastore, 1) := dk_79 (dk_at dksX1_room_2 2 rfl rfl)
theorem dX1_room_50 : decode cX1_room 50 = .ok (.dup, 1) := dk_89 (dk_at dksX1_room_2 3 rfl rfl)
theorem dX1_room_51 : decode cX1_room 51 = .ok (.bipush 9, 2) := dk_16 9 (dk_at dksX1_room_2 4 rfl rfl)
theorem dX1_room_53 : decode cX1_room 53 = .ok (.bipush 62, 2) := dk_16 62 (dk_at dksX1_room_2 6 rfl rfl)
theorem dX1_room_55 : decode cX1_room 55 = .ok (.iastore, 1) := dk_79 (dk_at dksX1_room_2 8 rfl rfl)
theorem dX1_room_56 : decode cX1_room 56 = .ok (.astore_n 1, 1) := dk_76 (dk_at dksX1_room_2 9 rfl rfl)
theorem dX1_room_57 : decode cX1_room 57 = .ok (.aload_n 1, 1) := dk_43 (dk_at dksX1_room_2 10 rfl rfl)
theorem dX1_room_58 : decode cX1_room 58 = .ok (.iload_n 0, 1) := dk_26 (dk_at dksX1_room_2 11 rfl rfl)
theorem dX1_room_59 : decode cX1_room 59 = .ok (.iaload, 1) := dk_46 (dk_at dksX1_room_2 12 rfl rfl)
theorem dX1_room_60 : decode cX1_room 60 = .ok (.ireturn, 1) := dk_172 (dk_at dksX1_room_2 13 rfl rfl)
abbrev cX1_checks : ByteArray := prog_4_method_3_code
def yX1_checks : MethodName := ⟨RX1, "checks", "(I)I"⟩
def dkwX1_checks_2 : List UInt8 := [16, 28, 79, 89, 16, 9, 16, 36, 79, 76, 43, 26, 46, 172]
abbrev dktX1_checks_2 : List UInt8 := dkwX1_checks_2 ++ []
def dkwX1_checks_1 : List UInt8 := [7, 16, 14, 79, 89, 8, 16, 18, 79, 89, 16, 6, 16, 20, 79, 89, 16, 7, 16, 24, 79, 89, 16, 8]
abbrev dktX1_checks_1 : List UInt8 := dkwX1_checks_1 ++ dktX1_checks_2
def dkwX1_checks_0 : List UInt8 := [16, 10, 188, 10, 89, 3, 8, 79, 89, 4, 16, 7, 79, 89, 5, 16, 10, 79, 89, 6, 16, 12, 79, 89]
abbrev dktX1_checks_0 : List UInt8 := dkwX1_checks_0 ++ dktX1_checks_1
theorem dksX1_checks_0 : cX1_checks.data.toList.drop 0 = dktX1_checks_0 := by decide +kernel
theorem dksX1_checks_1 : cX1_checks.data.toList.drop 24 = dktX1_checks_1 := dk_seg dksX1_checks_0 24 rfl rfl
theorem dksX1_checks_2 : cX1_checks.data.toList.drop 48 = dktX1_checks_2 := dk_seg dksX1_checks_1 24 rfl rfl
theorem dX1_checks_0 : decode cX1_checks 0 = .ok (.bipush 10, 2) := dk_16 10 (dk_at dksX1_checks_0 0 rfl rfl)
theorem dX1_checks_2 : decode cX1_checks 2 = .ok (.newarray .int, 2) := dk_188_10 (dk_at dksX1_checks_0 2 rfl rfl)
theorem dX1_checks_4 : decode cX1_checks 4 = .ok (.dup, 1) := dk_89 (dk_at dksX1_checks_0 4 rfl rfl)
theorem dX1_checks_5 : decode cX1_checks 5 = .ok (.iconst 0, 1) := dk_3 (dk_at dksX1_checks_0 5 rfl rfl)
theorem dX1_checks_6 : decode cX1_checks 6 = .ok (.iconst 5, 1) := dk_8 (dk_at dksX1_checks_0 6 rfl rfl)
theorem dX1_checks_7 : decode cX1_checks 7 = .ok (.iastore, 1) := dk_79 (dk_at dksX1_checks_0 7 rfl rfl)
theorem dX1_checks_8 : decode cX1_checks 8 = .ok (.dup, 1) := dk_89 (dk_at dksX1_checks_0 8 rfl rfl)
theorem dX1_checks_9 : decode cX1_checks 9 = .ok (.iconst 1, 1) := dk_4 (dk_at dksX1_checks_0 9 rfl rfl)
theorem dX1_checks_10 : decode cX1_checks 10 = .ok (.bipush 7, 2) := dk_16 7 (dk_at dksX1_checks_0 10 rfl rfl)
theorem dX1_checks_12 : decode cX1_checks 12 = .ok (.iastore, 1) := dk_79 (dk_at dksX1_checks_0 12 rfl rfl)
theorem dX1_checks_13 : decode cX1_checks 13 = .ok (.dup, 1) := dk_89 (dk_at dksX1_checks_0 13 rfl rfl)
theorem dX1_checks_14 : decode cX1_checks 14 = .ok (.iconst 2, 1) := dk_5 (dk_at dksX1_checks_0 14 rfl rfl)
theorem dX1_checks_15 : decode cX1_checks 15 = .ok (.bipush 10, 2) := dk_16 10 (dk_at dksX1_checks_0 15 rfl rfl)
theorem dX1_checks_17 : decode cX1_checks 17 = .ok (.iastore, 1) := dk_79 (dk_at dksX1_checks_0 17 rfl rfl)
theorem dX1_checks_18 : decode cX1_checks 18 = .ok (.dup, 1) := dk_89 (dk_at dksX1_checks_0 18 rfl rfl)
theorem dX1_checks_19 : decode cX1_checks 19 = .ok (.iconst 3, 1) := dk_6 (dk_at dksX1_checks_0 19 rfl rfl)
theorem dX1_checks_20 : decode cX1_checks 20 = .ok (.bipush 12, 2) := dk_16 12 (dk_at dksX1_checks_0 20 rfl rfl)
theorem dX1_checks_22 : decode cX1_checks 22 = .ok (.iastore, 1) := dk_79 (dk_at dksX1_checks_0 22 rfl rfl)
theorem dX1_checks_23 : decode cX1_checks 23 = .ok (.dup, 1) := dk_89 (dk_at dksX1_checks_0 23 rfl rfl)
theorem dX1_checks_24 : decode cX1_checks 24 = .ok (.iconst 4, 1) := dk_7 (dk_at dksX1_checks_1 0 rfl rfl)
theorem dX1_checks_25 : decode cX1_checks 25 = .ok (.bipush 14, 2) := dk_16 14 (dk_at dksX1_checks_1 1 rfl rfl)
theorem dX1_checks_27 : decode cX1_checks 27 = .ok (.iastore, 1) := dk_79 (dk_at dksX1_checks_1 3 rfl rfl)
theorem dX1_checks_28 : decode cX1_checks 28 = .ok (.dup, 1) := dk_89 (dk_at dksX1_checks_1 4 rfl rfl)
theorem dX1_checks_29 : decode cX1_checks 29 = .ok (.iconst 5, 1) := dk_8 (dk_at dksX1_checks_1 5 rfl rfl)
theorem dX1_checks_30 : decode cX1_checks 30 = .ok (.bipush 18, 2) := dk_16 18 (dk_at dksX1_checks_1 6 rfl rfl)
theorem dX1_checks_32 : decode cX1_checks 32 = .ok (.iastore, 1) := dk_79 (dk_at dksX1_checks_1 8 rfl rfl)
theorem dX1_checks_33 : decode cX1_checks 33 = .ok (.dup, 1) := dk_89 (dk_at dksX1_checks_1 9 rfl rfl)
theorem dX1_checks_34 : decode cX1_checks 34 = .ok (.bipush 6, 2) := dk_16 6 (dk_at dksX1_checks_1 10 rfl rfl)
theorem dX1_checks_36 : decode cX1_checks 36 = .ok (.bipush 20, 2) := dk_16 20 (dk_at dksX1_checks_1 12 rfl rfl)
theorem dX1_checks_38 : decode cX1_checks 38 = .ok (.iastore, 1) := dk_79 (dk_at dksX1_checks_1 14 rfl rfl)
theorem dX1_checks_39 : decode cX1_checks 39 = .ok (.dup, 1) := dk_89 (dk_at dksX1_checks_1 15 rfl rfl)
theorem dX1_checks_40 : decode cX1_checks 40 = .ok (.bipush 7, 2) := dk_16 7 (dk_at dksX1_checks_1 16 rfl rfl)
theorem dX1_checks_42 : decode cX1_checks 42 = .ok (.bipush 24, 2) := dk_16 24 (dk_at dksX1_checks_1 18 rfl rfl)
theorem dX1_checks_44 : decode cX1_checks 44 = .ok (.iastore, 1) := dk_79 (dk_at dksX1_checks_1 20 rfl rfl)
theorem dX1_checks_45 : decode cX1_checks 45 = .ok (.dup, 1) := dk_89 (dk_at dksX1_checks_1 21 rfl rfl)
theorem dX1_checks_46 : decode cX1_checks 46 = .ok (.bipush 8, 2) := dk_16 8 (dk_at dksX1_checks_1 22 rfl rfl)
theorem dX1_checks_48 : decode cX1_checks 48 = .ok (.bipush 28, 2) := dk_16 28 (dk_at dksX1_checks_2 0 rfl rfl)
theorem dX1_checks_50 : decode cX1_checks 50 = .ok (.iastore, 1) := dk_79 (dk_at dksX1_checks_2 2 rfl rfl)
theorem dX1_checks_51 : decode cX1_checks 51 = .ok (.dup, 1) := dk_89 (dk_at dksX1_checks_2 3 rfl rfl)
theorem dX1_checks_52 : decode cX1_checks 52 = .ok (.bipush 9, 2) := dk_16 9 (dk_at dksX1_checks_2 4 rfl rfl)
theorem dX1_checks_54 : decode cX1_checks 54 = .ok (.bipush 36, 2) := dk_16 36 (dk_at dksX1_checks_2 6 rfl rfl)
theorem dX1_checks_56 : decode cX1_checks 56 = .ok (.iastore, 1) := dk_79 (dk_at dksX1_checks_2 8 rfl rfl)
theorem dX1_checks_57 : decode cX1_checks 57 = .ok (.astore_n 1, 1) := dk_76 (dk_at dksX1_checks_2 9 rfl rfl)
theorem dX1_checks_58 : decode cX1_checks 58 = .ok (.aload_n 1, 1) := dk_43 (dk_at dksX1_checks_2 10 rfl rfl)
theorem dX1_checks_59 : decode cX1_checks 59 = .ok (.iload_n 0, 1) := dk_26 (dk_at dksX1_checks_2 11 rfl rfl)
theorem dX1_checks_60 : decode cX1_checks 60 = .ok (.iaload, 1) := dk_46 (dk_at dksX1_checks_2 12 rfl rfl)
theorem dX1_checks_61 : decode cX1_checks 61 = .ok (.ireturn, 1) := dk_172 (dk_at dksX1_checks_2 13 rfl rfl)
abbrev cX1_maker : ByteArray := prog_4_method_7_code
def yX1_maker : MethodName := ⟨RX1, "maker", "(I)[I"⟩
def dkwX1_maker_3 : List UInt8 := [132, 5, 1, 167, 255, 216, 25, 4, 76, 132, 3, 1, 167, 255, 185, 43, 176]
abbrev dktX1_maker_3 : List UInt8 := dkwX1_maker_3 ++ []
def dkwX1_maker_2 : List UInt8 := [21, 5, 46, 130, 79, 25, 4, 21, 5, 4, 96, 92, 46, 28, 43, 21, 5, 46, 184, 0, 17, 130, 79]
abbrev dktX1_maker_2 : List UInt8 := dkwX1_maker_2 ++ dktX1_maker_3
def dkwX1_maker_1 : List UInt8 := [190, 4, 96, 188, 10, 58, 4, 3, 54, 5, 21, 5, 43, 190, 162, 0, 39, 25, 4, 21, 5, 92, 46, 43]
abbrev dktX1_maker_1 : List UInt8 := dkwX1_maker_1 ++ dktX1_maker_2
def dkwX1_maker_0 : List UInt8 := [4, 188, 10, 89, 3, 4, 79, 76, 4, 61, 3, 62, 29, 26, 162, 0, 72, 28, 5, 184, 0, 17, 61, 43]
abbrev dktX1_maker_0 : List UInt8 := dkwX1_maker_0 ++ dktX1_maker_1
theorem dksX1_maker_0 : cX1_maker.data.toList.drop 0 = dktX1_maker_0 := by decide +kernel
theorem dksX1_maker_1 : cX1_maker.data.toList.drop 24 = dktX1_maker_1 := dk_seg dksX1_maker_0 24 rfl rfl
theorem dksX1_maker_2 : cX1_maker.data.toList.drop 48 = dktX1_maker_2 := dk_seg dksX1_maker_1 24 rfl rfl
theorem dksX1_maker_3 : cX1_maker.data.toList.drop 71 = dktX1_maker_3 := dk_seg dksX1_maker_2 23 rfl rfl
theorem dX1_maker_0 : decode cX1_maker 0 = .ok (.iconst 1, 1) := dk_4 (dk_at dksX1_maker_0 0 rfl rfl)
theorem dX1_maker_1 : decode cX1_maker 1 = .ok (.newarray .int, 2) := dk_188_10 (dk_at dksX1_maker_0 1 rfl rfl)
theorem dX1_maker_3 : decode cX1_maker 3 = .ok (.dup, 1) := dk_89 (dk_at dksX1_maker_0 3 rfl rfl)
theorem dX1_maker_4 : decode cX1_maker 4 = .ok (.iconst 0, 1) := dk_3 (dk_at dksX1_maker_0 4 rfl rfl)
theorem dX1_maker_5 : decode cX1_maker 5 = .ok (.iconst 1, 1) := dk_4 (dk_at dksX1_maker_0 5 rfl rfl)
theorem dX1_maker_6 : decode cX1_maker 6 = .ok (.iastore, 1) := dk_79 (dk_at dksX1_maker_0 6 rfl rfl)
theorem dX1_maker_7 : decode cX1_maker 7 = .ok (.astore_n 1, 1) := dk_76 (dk_at dksX1_maker_0 7 rfl rfl)
theorem dX1_maker_8 : decode cX1_maker 8 = .ok (.iconst 1, 1) := dk_4 (dk_at dksX1_maker_0 8 rfl rfl)
theorem dX1_maker_9 : decode cX1_maker 9 = .ok (.istore_n 2, 1) := dk_61 (dk_at dksX1_maker_0 9 rfl rfl)
theorem dX1_maker_10 : decode cX1_maker 10 = .ok (.iconst 0, 1) := dk_3 (dk_at dksX1_maker_0 10 rfl rfl)
theorem dX1_maker_11 : decode cX1_maker 11 = .ok (.istore_n 3, 1) := dk_62 (dk_at dksX1_maker_0 11 rfl rfl)
theorem dX1_maker_12 : decode cX1_maker 12 = .ok (.iload_n 3, 1) := dk_29 (dk_at dksX1_maker_0 12 rfl rfl)
theorem dX1_maker_13 : decode cX1_maker 13 = .ok (.iload_n 0, 1) := dk_26 (dk_at dksX1_maker_0 13 rfl rfl)
theorem dX1_maker_14 : decode cX1_maker 14 = .ok (.if_icmp .ge 72, 3) := dk_162 0 72 (dk_at dksX1_maker_0 14 rfl rfl)
theorem dX1_maker_17 : decode cX1_maker 17 = .ok (.iload_n 2, 1) := dk_28 (dk_at dksX1_maker_0 17 rfl rfl)
theorem dX1_maker_18 : decode cX1_maker 18 = .ok (.iconst 2, 1) := dk_5 (dk_at dksX1_maker_0 18 rfl rfl)
theorem dX1_maker_19 : decode cX1_maker 19 = .ok (.invokestatic 17, 3) := dk_184 0 17 (dk_at dksX1_maker_0 19 rfl rfl)
theorem dX1_maker_22 : decode cX1_maker 22 = .ok (.istore_n 2, 1) := dk_61 (dk_at dksX1_maker_0 22 rfl rfl)
theorem dX1_maker_23 : decode cX1_maker 23 = .ok (.aload_n 1, 1) := dk_43 (dk_at dksX1_maker_0 23 rfl rfl)
theorem dX1_maker_24 : decode cX1_maker 24 = .ok (.arraylength, 1) := dk_190 (dk_at dksX1_maker_1 0 rfl rfl)
theorem dX1_maker_25 : decode cX1_maker 25 = .ok (.iconst 1, 1) := dk_4 (dk_at dksX1_maker_1 1 rfl rfl)
theorem dX1_maker_26 : decode cX1_maker 26 = .ok (.iadd, 1) := dk_96 (dk_at dksX1_maker_1 2 rfl rfl)
theorem dX1_maker_27 : decode cX1_maker 27 = .ok (.newarray .int, 2) := dk_188_10 (dk_at dksX1_maker_1 3 rfl rfl)
theorem dX1_maker_29 : decode cX1_maker 29 = .ok (.astore 4, 2) := dk_58 4 (dk_at dksX1_maker_1 5 rfl rfl)
theorem dX1_maker_31 : decode cX1_maker 31 = .ok (.iconst 0, 1) := dk_3 (dk_at dksX1_maker_1 7 rfl rfl)
theorem dX1_maker_32 : decode cX1_maker 32 = .ok (.istore 5, 2) := dk_54 5 (dk_at dksX1_maker_1 8 rfl rfl)
theorem dX1_maker_34 : decode cX1_maker 34 = .ok (.iload 5, 2) := dk_21 5 (dk_at dksX1_maker_1 10 rfl rfl)
theorem dX1_maker_36 : decode cX1_maker 36 = .ok (.aload_n 1, 1) := dk_43 (dk_at dksX1_maker_1 12 rfl rfl)
theorem dX1_maker_37 : decode cX1_maker 37 = .ok (.arraylength, 1) := dk_190 (dk_at dksX1_maker_1 13 rfl rfl)
theorem dX1_maker_38 : decode cX1_maker 38 = .ok (.if_icmp .ge 39, 3) := dk_162 0 39 (dk_at dksX1_maker_1 14 rfl rfl)
theorem dX1_maker_41 : decode cX1_maker 41 = .ok (.aload 4, 2) := dk_25 4 (dk_at dksX1_maker_1 17 rfl rfl)
theorem dX1_maker_43 : decode cX1_maker 43 = .ok (.iload 5, 2) := dk_21 5 (dk_at dksX1_maker_1 19 rfl rfl)
theorem dX1_maker_45 : decode cX1_maker 45 = .ok (.dup2, 1) := dk_92 (dk_at dksX1_maker_1 21 rfl rfl)
theorem dX1_maker_46 : decode cX1_maker 46 = .ok (.iaload, 1) := dk_46 (dk_at dksX1_maker_1 22 rfl rfl)
theorem dX1_maker_47 : decode cX1_maker 47 = .ok (.aload_n 1, 1) := dk_43 (dk_at dksX1_maker_1 23 rfl rfl)
theorem dX1_maker_48 : decode cX1_maker 48 = .ok (.iload 5, 2) := dk_21 5 (dk_at dksX1_maker_2 0 rfl rfl)
theorem dX1_maker_50 : decode cX1_maker 50 = .ok (.iaload, 1) := dk_46 (dk_at dksX1_maker_2 2 rfl rfl)
theorem dX1_maker_51 : decode cX1_maker 51 = .ok (.ixor, 1) := dk_130 (dk_at dksX1_maker_2 3 rfl rfl)
theorem dX1_maker_52 : decode cX1_maker 52 = .ok (.iastore, 1) := dk_79 (dk_at dksX1_maker_2 4 rfl rfl)
theorem dX1_maker_53 : decode cX1_maker 53 = .ok (.aload 4, 2) := dk_25 4 (dk_at dksX1_maker_2 5 rfl rfl)
theorem dX1_maker_55 : decode cX1_maker 55 = .ok (.iload 5, 2) := dk_21 5 (dk_at dksX1_maker_2 7 rfl rfl)
theorem dX1_maker_57 : decode cX1_maker 57 = .ok (.iconst 1, 1) := dk_4 (dk_at dksX1_maker_2 9 rfl rfl)
theorem dX1_maker_58 : decode cX1_maker 58 = .ok (.iadd, 1) := dk_96 (dk_at dksX1_maker_2 10 rfl rfl)
theorem dX1_maker_59 : decode cX1_maker 59 = .ok (.dup2, 1) := dk_92 (dk_at dksX1_maker_2 11 rfl rfl)
theorem dX1_maker_60 : decode cX1_maker 60 = .ok (.iaload, 1) := dk_46 (dk_at dksX1_maker_2 12 rfl rfl)
theorem dX1_maker_61 : decode cX1_maker 61 = .ok (.iload_n 2, 1) := dk_28 (dk_at dksX1_maker_2 13 rfl rfl)
theorem dX1_maker_62 : decode cX1_maker 62 = .ok (.aload_n 1, 1) := dk_43 (dk_at dksX1_maker_2 14 rfl rfl)
theorem dX1_maker_63 : decode cX1_maker 63 = .ok (.iload 5, 2) := dk_21 5 (dk_at dksX1_maker_2 15 rfl rfl)
theorem dX1_maker_65 : decode cX1_maker 65 = .ok (.iaload, 1) := dk_46 (dk_at dksX1_maker_2 17 rfl rfl)
theorem dX1_maker_66 : decode cX1_maker 66 = .ok (.invokestatic 17, 3) := dk_184 0 17 (dk_at dksX1_maker_2 18 rfl rfl)
theorem dX1_maker_69 : decode cX1_maker 69 = .ok (.ixor, 1) := dk_130 (dk_at dksX1_maker_2 21 rfl rfl)
theorem dX1_maker_70 : decode cX1_maker 70 = .ok (.iastore, 1) := dk_79 (dk_at dksX1_maker_2 22 rfl rfl)
theorem dX1_maker_71 : decode cX1_maker 71 = .ok (.iinc 5 1, 3) := dk_132 5 1 (dk_at dksX1_maker_3 0 rfl rfl)
theorem dX1_maker_74 : decode cX1_maker 74 = .ok (.goto (-40), 3) := dk_167 255 216 (dk_at dksX1_maker_3 3 rfl rfl)
theorem dX1_maker_77 : decode cX1_maker 77 = .ok (.aload 4, 2) := dk_25 4 (dk_at dksX1_maker_3 6 rfl rfl)
theorem dX1_maker_79 : decode cX1_maker 79 = .ok (.astore_n 1, 1) := dk_76 (dk_at dksX1_maker_3 8 rfl rfl)
theorem dX1_maker_80 : decode cX1_maker 80 = .ok (.iinc 3 1, 3) := dk_132 3 1 (dk_at dksX1_maker_3 9 rfl rfl)
theorem dX1_maker_83 : decode cX1_maker 83 = .ok (.goto (-71), 3) := dk_167 255 185 (dk_at dksX1_maker_3 12 rfl rfl)
theorem dX1_maker_86 : decode cX1_maker 86 = .ok (.aload_n 1, 1) := dk_43 (dk_at dksX1_maker_3 15 rfl rfl)
theorem dX1_maker_87 : decode cX1_maker 87 = .ok (.areturn, 1) := dk_176 (dk_at dksX1_maker_3 16 rfl rfl)
abbrev cX1_product : ByteArray := prog_4_method_6_code
def yX1_product : MethodName := ⟨RX1, "product", "(II)I"⟩
def dkwX1_product_1 : List UInt8 := [130, 61, 27, 29, 122, 4, 126, 4, 160, 0, 7, 28, 26, 130, 61, 132, 3, 255, 167, 255, 219, 28, 172]
abbrev dktX1_product_1 : List UInt8 := dkwX1_product_1 ++ []
def dkwX1_product_0 : List UInt8 := [3, 61, 16, 7, 62, 29, 155, 0, 39, 28, 4, 120, 61, 28, 17, 0, 255, 164, 0, 9, 28, 17, 1, 45]
abbrev dktX1_product_0 : List UInt8 := dkwX1_product_0 ++ dktX1_product_1
theorem dksX1_product_0 : cX1_product.data.toList.drop 0 = dktX1_product_0 := by decide +kernel
theorem dksX1_product_1 : cX1_product.data.toList.drop 24 = dktX1_product_1 := dk_seg dksX1_product_0 24 rfl rfl
theorem dX1_product_0 : decode cX1_product 0 = .ok (.iconst 0, 1) := dk_3 (dk_at dksX1_product_0 0 rfl rfl)
theorem dX1_product_1 : decode cX1_product 1 = .ok (.istore_n 2, 1) := dk_61 (dk_at dksX1_product_0 1 rfl rfl)
theorem dX1_product_2 : decode cX1_product 2 = .ok (.bipush 7, 2) := dk_16 7 (dk_at dksX1_product_0 2 rfl rfl)
theorem dX1_product_4 : decode cX1_product 4 = .ok (.istore_n 3, 1) := dk_62 (dk_at dksX1_product_0 4 rfl rfl)
theorem dX1_product_5 : decode cX1_product 5 = .ok (.iload_n 3, 1) := dk_29 (dk_at dksX1_product_0 5 rfl rfl)
theorem dX1_product_6 : decode cX1_product 6 = .ok (.ifCond .lt 39, 3) := dk_155 0 39 (dk_at dksX1_product_0 6 rfl rfl)
theorem dX1_product_9 : decode cX1_product 9 = .ok (.iload_n 2, 1) := dk_28 (dk_at dksX1_product_0 9 rfl rfl)
theorem dX1_product_10 : decode cX1_product 10 = .ok (.iconst 1, 1) := dk_4 (dk_at dksX1_product_0 10 rfl rfl)
theorem dX1_product_11 : decode cX1_product 11 = .ok (.ishl, 1) := dk_120 (dk_at dksX1_product_0 11 rfl rfl)
theorem dX1_product_12 : decode cX1_product 12 = .ok (.istore_n 2, 1) := dk_61 (dk_at dksX1_product_0 12 rfl rfl)
theorem dX1_product_13 : decode cX1_product 13 = .ok (.iload_n 2, 1) := dk_28 (dk_at dksX1_product_0 13 rfl rfl)
theorem dX1_product_14 : decode cX1_product 14 = .ok (.sipush 255, 3) := dk_17 0 255 (dk_at dksX1_product_0 14 rfl rfl)
theorem dX1_product_17 : decode cX1_product 17 = .ok (.if_icmp .le 9, 3) := dk_164 0 9 (dk_at dksX1_product_0 17 rfl rfl)
theorem dX1_product_20 : decode cX1_product 20 = .ok (.iload_n 2, 1) := dk_28 (dk_at dksX1_product_0 20 rfl rfl)
theorem dX1_product_21 : decode cX1_product 21 = .ok (.sipush 301, 3) := dk_17 1 45 (dk_at dksX1_product_0 21 rfl rfl)
theorem dX1_product_24 : decode cX1_product 24 = .ok (.ixor, 1) := dk_130 (dk_at dksX1_product_1 0 rfl rfl)
theorem dX1_product_25 : decode cX1_product 25 = .ok (.istore_n 2, 1) := dk_61 (dk_at dksX1_product_1 1 rfl rfl)
theorem dX1_product_26 : decode cX1_product 26 = .ok (.iload_n 1, 1) := dk_27 (dk_at dksX1_product_1 2 rfl rfl)
theorem dX1_product_27 : decode cX1_product 27 = .ok (.iload_n 3, 1) := dk_29 (dk_at dksX1_product_1 3 rfl rfl)
theorem dX1_product_28 : decode cX1_product 28 = .ok (.ishr, 1) := dk_122 (dk_at dksX1_product_1 4 rfl rfl)
theorem dX1_product_29 : decode cX1_product 29 = .ok (.iconst 1, 1) := dk_4 (dk_at dksX1_product_1 5 rfl rfl)
theorem dX1_product_30 : decode cX1_product 30 = .ok (.iand, 1) := dk_126 (dk_at dksX1_product_1 6 rfl rfl)
theorem dX1_product_31 : decode cX1_product 31 = .ok (.iconst 1, 1) := dk_4 (dk_at dksX1_product_1 7 rfl rfl)
theorem dX1_product_32 : decode cX1_product 32 = .ok (.if_icmp .ne 7, 3) := dk_160 0 7 (dk_at dksX1_product_1 8 rfl rfl)
theorem dX1_product_35 : decode cX1_product 35 = .ok (.iload_n 2, 1) := dk_28 (dk_at dksX1_product_1 11 rfl rfl)
theorem dX1_product_36 : decode cX1_product 36 = .ok (.iload_n 0, 1) := dk_26 (dk_at dksX1_product_1 12 rfl rfl)
theorem dX1_product_37 : decode cX1_product 37 = .ok (.ixor, 1) := dk_130 (dk_at dksX1_product_1 13 rfl rfl)
theorem dX1_product_38 : decode cX1_product 38 = .ok (.istore_n 2, 1) := dk_61 (dk_at dksX1_product_1 14 rfl rfl)
theorem dX1_product_39 : decode cX1_product 39 = .ok (.iinc 3 (-1), 3) := dk_132 3 255 (dk_at dksX1_product_1 15 rfl rfl)
theorem dX1_product_42 : decode cX1_product 42 = .ok (.goto (-37), 3) := dk_167 255 219 (dk_at dksX1_product_1 18 rfl rfl)
theorem dX1_product_45 : decode cX1_product 45 = .ok (.iload_n 2, 1) := dk_28 (dk_at dksX1_product_1 21 rfl rfl)
theorem dX1_product_46 : decode cX1_product 46 = .ok (.ireturn, 1) := dk_172 (dk_at dksX1_product_1 22 rfl rfl)
abbrev cX1_whole : ByteArray := prog_4_method_9_code
def yX1_whole : MethodName := ⟨RX1, "whole", "(I)I"⟩
def dkwX1_whole_1 : List UInt8 := [190, 112, 46, 172]
abbrev dktX1_whole_1 : List UInt8 := dkwX1_whole_1 ++ []
def dkwX1_whole_0 : List UInt8 := [42, 180, 0, 13, 190, 154, 0, 7, 2, 167, 0, 18, 42, 180, 0, 13, 27, 18, 16, 126, 42, 180, 0, 13]
abbrev dktX1_whole_0 : List UInt8 := dkwX1_whole_0 ++ dktX1_whole_1
theorem dksX1_whole_0 : cX1_whole.data.toList.drop 0 = dktX1_whole_0 := by decide +kernel
theorem dksX1_whole_1 : cX1_whole.data.toList.drop 24 = dktX1_whole_1 := dk_seg dksX1_whole_0 24 rfl rfl
theorem dX1_whole_0 : decode cX1_whole 0 = .ok (.aload_n 0, 1) := dk_42 (dk_at dksX1_whole_0 0 rfl rfl)
theorem dX1_whole_1 : decode cX1_whole 1 = .ok (.getfield 13, 3) := dk_180 0 13 (dk_at dksX1_whole_0 1 rfl rfl)
theorem dX1_whole_4 : decode cX1_whole 4 = .ok (.arraylength, 1) := dk_190 (dk_at dksX1_whole_0 4 rfl rfl)
theorem dX1_whole_5 : decode cX1_whole 5 = .ok (.ifCond .ne 7, 3) := dk_154 0 7 (dk_at dksX1_whole_0 5 rfl rfl)
theorem dX1_whole_8 : decode cX1_whole 8 = .ok (.iconst (-1), 1) := dk_2 (dk_at dksX1_whole_0 8 rfl rfl)
theorem dX1_whole_9 : decode cX1_whole 9 = .ok (.goto 18, 3) := dk_167 0 18 (dk_at dksX1_whole_0 9 rfl rfl)
theorem dX1_whole_12 : decode cX1_whole 12 = .ok (.aload_n 0, 1) := dk_42 (dk_at dksX1_whole_0 12 rfl rfl)
theorem dX1_whole_13 : decode cX1_whole 13 = .ok (.getfield 13, 3) := dk_180 0 13 (dk_at dksX1_whole_0 13 rfl rfl)
theorem dX1_whole_16 : decode cX1_whole 16 = .ok (.iload_n 1, 1) := dk_27 (dk_at dksX1_whole_0 16 rfl rfl)
theorem dX1_whole_17 : decode cX1_whole 17 = .ok (.ldc 16, 2) := dk_18 16 (dk_at dksX1_whole_0 17 rfl rfl)
theorem dX1_whole_19 : decode cX1_whole 19 = .ok (.iand, 1) := dk_126 (dk_at dksX1_whole_0 19 rfl rfl)
theorem dX1_whole_20 : decode cX1_whole 20 = .ok (.aload_n 0, 1) := dk_42 (dk_at dksX1_whole_0 20 rfl rfl)
theorem dX1_whole_21 : decode cX1_whole 21 = .ok (.getfield 13, 3) := dk_180 0 13 (dk_at dksX1_whole_0 21 rfl rfl)
theorem dX1_whole_24 : decode cX1_whole 24 = .ok (.arraylength, 1) := dk_190 (dk_at dksX1_whole_1 0 rfl rfl)
theorem dX1_whole_25 : decode cX1_whole 25 = .ok (.irem, 1) := dk_112 (dk_at dksX1_whole_1 1 rfl rfl)
theorem dX1_whole_26 : decode cX1_whole 26 = .ok (.iaload, 1) := dk_46 (dk_at dksX1_whole_1 2 rfl rfl)
theorem dX1_whole_27 : decode cX1_whole 27 = .ok (.ireturn, 1) := dk_172 (dk_at dksX1_whole_1 3 rfl rfl)
theorem q3 : (Jvm.Cond.initialized "SquareParityModel") ∈ lw_all := lw_g (lw_at lw_m1 2 rfl) rfl
theorem q538 : (Jvm.Cond.instantiable "SquareParityModel" (2 : Nat)) ∈ lw_all := lw_g (lw_at lw_m3 57 rfl) rfl
theorem q540 : (Jvm.Cond.instanceMethod ({ cls := "SquareParityModel", name := "<init>", desc := "()V" } : Jvm.MethodName)) ∈ lw_all := lw_g (lw_at lw_m3 59 rfl) rfl
theorem q541 : (Jvm.Cond.code ({ cls := "SquareParityModel", name := "<init>", desc := "()V" } : Jvm.MethodName) prog_4_method_1_code (1 : Nat) (Option.none : Option Jvm.ClassFile.FieldType)) ∈ lw_all := lw_g (lw_at lw_m3 60 rfl) rfl
theorem q542 : (Jvm.Cond.methodLink "SquareParityModel" (1 : Nat) ({ cls := "java/lang/Object", name := "<init>", desc := "()V" } : Jvm.MethodName)) ∈ lw_all := lw_g (lw_at lw_m3 61 rfl) rfl
theorem q543 : (Jvm.Cond.fieldLink "SquareParityModel" (9 : Nat) "SquareParityModel" "letters" "[I") ∈ lw_all := lw_g (lw_at lw_m3 62 rfl) rfl
theorem q544 : (Jvm.Cond.fieldLink "SquareParityModel" (13 : Nat) "SquareParityModel" "whole" "[I") ∈ lw_all := lw_g (lw_at lw_m3 63 rfl) rfl
theorem q545 : (Jvm.Cond.laysFinal "SquareParityModel" "SquareParityModel" "letters" "[I") ∈ lw_all := lw_g (lw_at lw_m3 64 rfl) rfl
theorem q546 : (Jvm.Cond.soleField "SquareParityModel" "letters") ∈ lw_all := lw_g (lw_at lw_m3 65 rfl) rfl
theorem q547 : (Jvm.Cond.lays "SquareParityModel" "SquareParityModel" "whole" "[I") ∈ lw_all := lw_g (lw_at lw_m3 66 rfl) rfl
theorem q548 : (Jvm.Cond.soleField "SquareParityModel" "whole") ∈ lw_all := lw_g (lw_at lw_m3 67 rfl) rfl
theorem q549 : (Jvm.Cond.superclass "SquareParityModel" "java/lang/Object") ∈ lw_all := lw_g (lw_at lw_m3 68 rfl) rfl
theorem q551 : (Jvm.Cond.instanceMethod ({ cls := "SquareParityModel", name := "letter", desc := "(II)V" } : Jvm.MethodName)) ∈ lw_all := lw_g (lw_at lw_m3 70 rfl) rfl
theorem q552 : (Jvm.Cond.selects "SquareParityModel" ({ cls := "SquareParityModel", name := "letter", desc := "(II)V" } : Jvm.MethodName) ({ cls := "SquareParityModel", name := "letter", desc := "(II)V" } : Jvm.MethodName)) ∈ lw_all := lw_g (lw_at lw_m3 71 rfl) rfl
theorem q553 : (Jvm.Cond.code ({ cls := "SquareParityModel", name := "letter", desc := "(II)V" } : Jvm.MethodName) prog_4_method_4_code (3 : Nat) (Option.none : Option Jvm.ClassFile.FieldType)) ∈ lw_all := lw_g (lw_at lw_m3 72 rfl) rfl
theorem q554 : (Jvm.Cond.constant "SquareParityModel" (16 : Nat) (2147483647 : Int32)) ∈ lw_all := lw_g (lw_at lw_m3 73 rfl) rfl
theorem q556 : (Jvm.Cond.instanceMethod ({ cls := "SquareParityModel", name := "fill", desc := "(II)V" } : Jvm.MethodName)) ∈ lw_all := lw_g (lw_at lw_m3 75 rfl) rfl
theorem q557 : (Jvm.Cond.selects "SquareParityModel" ({ cls := "SquareParityModel", name := "fill", desc := "(II)V" } : Jvm.MethodName) ({ cls := "SquareParityModel", name := "fill", desc := "(II)V" } : Jvm.MethodName)) ∈ lw_all := lw_g (lw_at lw_m3 76 rfl) rfl
theorem q558 : (Jvm.Cond.code ({ cls := "SquareParityModel", name := "fill", desc := "(II)V" } : Jvm.MethodName) prog_4_method_5_code (4 : Nat) (Option.none : Option Jvm.ClassFile.FieldType)) ∈ lw_all := lw_g (lw_at lw_m3 77 rfl) rfl
theorem q560 : (Jvm.Cond.instanceMethod ({ cls := "SquareParityModel", name := "write", desc := "(I)I" } : Jvm.MethodName)) ∈ lw_all := lw_g (lw_at lw_m3 79 rfl) rfl
theorem q561 : (Jvm.Cond.selects "SquareParityModel" ({ cls := "SquareParityModel", name := "write", desc := "(I)I" } : Jvm.MethodName) ({ cls := "SquareParityModel", name := "write", desc := "(I)I" } : Jvm.MethodName)) ∈ lw_all := lw_g (lw_at lw_m3 80 rfl) rfl
theorem q562 : (Jvm.Cond.code ({ cls := "SquareParityModel", name := "write", desc := "(I)I" } : Jvm.MethodName) prog_4_method_8_code (11 : Nat) (Option.some Jvm.ClassFile.FieldType.int)) ∈ lw_all := lw_g (lw_at lw_m3 81 rfl) rfl
theorem q563 : (Jvm.Cond.methodLink "SquareParityModel" (21 : Nat) ({ cls := "SquareParityModel", name := "room", desc := "(I)I" } : Jvm.MethodName)) ∈ lw_all := lw_g (lw_at lw_m3 82 rfl) rfl
theorem q564 : (Jvm.Cond.static ({ cls := "SquareParityModel", name := "room", desc := "(I)I" } : Jvm.MethodName)) ∈ lw_all := lw_g (lw_at lw_m3 83 rfl) rfl
theorem q565 : (Jvm.Cond.code ({ cls := "SquareParityModel", name := "room", desc := "(I)I" } : Jvm.MethodName) prog_4_method_2_code (2 : Nat) (Option.some Jvm.ClassFile.FieldType.int)) ∈ lw_all := lw_g (lw_at lw_m3 84 rfl) rfl
theorem q566 : (Jvm.Cond.methodLink "SquareParityModel" (25 : Nat) ({ cls := "SquareParityModel", name := "checks", desc := "(I)I" } : Jvm.MethodName)) ∈ lw_all := lw_g (lw_at lw_m3 85 rfl) rfl
theorem q567 : (Jvm.Cond.static ({ cls := "SquareParityModel", name := "checks", desc := "(I)I" } : Jvm.MethodName)) ∈ lw_all := lw_g (lw_at lw_m3 86 rfl) rfl
theorem q568 : (Jvm.Cond.code ({ cls := "SquareParityModel", name := "checks", desc := "(I)I" } : Jvm.MethodName) prog_4_method_3_code (2 : Nat) (Option.some Jvm.ClassFile.FieldType.int)) ∈ lw_all := lw_g (lw_at lw_m3 87 rfl) rfl
theorem q569 : (Jvm.Cond.methodLink "SquareParityModel" (28 : Nat) ({ cls := "SquareParityModel", name := "maker", desc := "(I)[I" } : Jvm.MethodName)) ∈ lw_all := lw_g (lw_at lw_m3 88 rfl) rfl
theorem q570 : (Jvm.Cond.static ({ cls := "SquareParityModel", name := "maker", desc := "(I)[I" } : Jvm.MethodName)) ∈ lw_all := lw_g (lw_at lw_m3 89 rfl) rfl
theorem q571 : (Jvm.Cond.code ({ cls := "SquareParityModel", name := "maker", desc := "(I)[I" } : Jvm.MethodName) prog_4_method_7_code (6 : Nat) (Option.some (Jvm.ClassFile.FieldType.array Jvm.ClassFile.FieldType.int))) ∈ lw_all := lw_g (lw_at lw_m3 90 rfl) rfl
theorem q572 : (Jvm.Cond.methodLink "SquareParityModel" (17 : Nat) ({ cls := "SquareParityModel", name := "product", desc := "(II)I" } : Jvm.MethodName)) ∈ lw_all := lw_g (lw_at lw_m3 91 rfl) rfl
theorem q573 : (Jvm.Cond.static ({ cls := "SquareParityModel", name := "product", desc := "(II)I" } : Jvm.MethodName)) ∈ lw_all := lw_g (lw_at lw_m3 92 rfl) rfl
theorem q574 : (Jvm.Cond.code ({ cls := "SquareParityModel", name := "product", desc := "(II)I" } : Jvm.MethodName) prog_4_method_6_code (4 : Nat) (Option.some Jvm.ClassFile.FieldType.int)) ∈ lw_all := lw_g (lw_at lw_m3 93 rfl) rfl
theorem q576 : (Jvm.Cond.instanceMethod ({ cls := "SquareParityModel", name := "whole", desc := "(I)I" } : Jvm.MethodName)) ∈ lw_all := lw_g (lw_at lw_m3 95 rfl) rfl
theorem q577 : (Jvm.Cond.selects "SquareParityModel" ({ cls := "SquareParityModel", name := "whole", desc := "(I)I" } : Jvm.MethodName) ({ cls := "SquareParityModel", name := "whole", desc := "(I)I" } : Jvm.MethodName)) ∈ lw_all := lw_g (lw_at lw_m3 96 rfl) rfl
theorem q578 : (Jvm.Cond.code ({ cls := "SquareParityModel", name := "whole", desc := "(I)I" } : Jvm.MethodName) prog_4_method_9_code (2 : Nat) (Option.some Jvm.ClassFile.FieldType.int)) ∈ lw_all := lw_g (lw_at lw_m3 97 rfl) rfl
theorem in_X1 : ∀ w ∈ wsX10, w ∈ lw_all := lw_in wsX10 [545, 547] (by decide +kernel) (by decide +kernel)
def RX2 : String := "SymbolInfo"
def TX2 : u_T := fun k => match k with
  | 0 => ("SymbolInfo", "rectangular", "Z", true)
  | 1 => ("SymbolInfo", "dataCapacity", "I", true)
  | 2 => ("SymbolInfo", "errorCodewords", "I", true)
  | 3 => ("SymbolInfo", "matrixWidth", "I", true)
  | 4 => ("SymbolInfo", "matrixHeight", "I", true)
  | 5 => ("SymbolInfo", "dataRegions", "I", true)
  | 6 => ("SymbolInfo", "rsBlockData", "I", true)
  | _ => ("SymbolInfo", "rsBlockError", "I", true)
def tyX2 : Nat → FieldType := fun k => match k with
  | 0 => .boolean
  | 1 => .int
  | 2 => .int
  | 3 => .int
  | 4 => .int
  | 5 => .int
  | 6 => .int
  | _ => .int
abbrev wsX20 : List Cond := u_ws RX2 TX2 8
theorem nmX2 : ∀ a, a < 8 → ∀ b, b < 8 → a ≠ b → (TX2 a).2.1 ≠ (TX2 b).2.1 := by decide +kernel
theorem tyX2_ok : ∀ k, k < 8 → parseFieldDescriptor (TX2 k).2.2.1 = some (tyX2 k) := by decide +kernel
abbrev cX2_init : ByteArray := prog_5_method_1_code
def yX2_init : MethodName := ⟨RX2, "<init>", "(ZIIIII)V"⟩
def dkwX2_init_0 : List UInt8 := [42, 27, 28, 29, 21, 4, 21, 5, 21, 6, 28, 29, 183, 0, 1, 177]
abbrev dktX2_init_0 : List UInt8 := dkwX2_init_0 ++ []
theorem dksX2_init_0 : cX2_init.data.toList.drop 0 = dktX2_init_0 := by decide +kernel
theorem dX2_init_0 : decode cX2_init 0 = .ok (.aload_n 0, 1) := dk_42 (dk_at dksX2_init_0 0 rfl rfl)
theorem dX2_init_1 : decode cX2_init 1 = .ok (.iload_n 1, 1) := dk_27 (dk_at dksX2_init_0 1 rfl rfl)
theorem dX2_init_2 : decode cX2_init 2 = .ok (.iload_n 2, 1) := dk_28 (dk_at dksX2_init_0 2 rfl rfl)
theorem dX2_init_3 : decode cX2_init 3 = .ok (.iload_n 3, 1) := dk_29 (dk_at dksX2_init_0 3 rfl rfl)
theorem dX2_init_4 : decode cX2_init 4 = .ok (.iload 4, 2) := dk_21 4 (dk_at dksX2_init_0 4 rfl rfl)
theorem dX2_init_6 : decode cX2_init 6 = .ok (.iload 5, 2) := dk_21 5 (dk_at dksX2_init_0 6 rfl rfl)
theorem dX2_init_8 : decode cX2_init 8 = .ok (.iload 6, 2) := dk_21 6 (dk_at dksX2_init_0 8 rfl rfl)
theorem dX2_init_10 : decode cX2_init 10 = .ok (.iload_n 2, 1) := dk_28 (dk_at dksX2_init_0 10 rfl rfl)
theorem dX2_init_11 : decode cX2_init 11 = .ok (.iload_n 3, 1) := dk_29 (dk_at dksX2_init_0 11 rfl rfl)
theorem dX2_init_12 : decode cX2_init 12 = .ok (.invokespecial 1, 3) := dk_183 0 1 (dk_at dksX2_init_0 12 rfl rfl)
theorem dX2_init_15 : decode cX2_init 15 = .ok (.return_, 1) := dk_177 (dk_at dksX2_init_0 15 rfl rfl)
abbrev cX2_init_2 : ByteArray := prog_5_method_2_code
def yX2_init_2 : MethodName := ⟨RX2, "<init>", "(ZIIIIIII)V"⟩
def dkwX2_init_2_2 : List UInt8 := [181, 0, 35, 177]
abbrev dktX2_init_2_2 : List UInt8 := dkwX2_init_2_2 ++ []
def dkwX2_init_2_1 : List UInt8 := [181, 0, 23, 42, 21, 5, 181, 0, 26, 42, 21, 6, 181, 0, 29, 42, 21, 7, 181, 0, 32, 42, 21, 8]
abbrev dktX2_init_2_1 : List UInt8 := dkwX2_init_2_1 ++ dktX2_init_2_2
def dkwX2_init_2_0 : List UInt8 := [42, 183, 0, 7, 42, 27, 181, 0, 12, 42, 28, 181, 0, 16, 42, 29, 181, 0, 20, 42, 21, 4]
abbrev dktX2_init_2_0 : List UInt8 := dkwX2_init_2_0 ++ dktX2_init_2_1
theorem dksX2_init_2_0 : cX2_init_2.data.toList.drop 0 = dktX2_init_2_0 := by decide +kernel
theorem dksX2_init_2_1 : cX2_init_2.data.toList.drop 22 = dktX2_init_2_1 := dk_seg dksX2_init_2_0 22 rfl rfl
theorem dksX2_init_2_2 : cX2_init_2.data.toList.drop 46 = dktX2_init_2_2 := dk_seg dksX2_init_2_1 24 rfl rfl
theorem dX2_init_2_0 : decode cX2_init_2 0 = .ok (.aload_n 0, 1) := dk_42 (dk_at dksX2_init_2_0 0 rfl rfl)
theorem dX2_init_2_1 : decode cX2_init_2 1 = .ok (.invokespecial 7, 3) := dk_183 0 7 (dk_at dksX2_init_2_0 1 rfl rfl)
theorem dX2_init_2_4 : decode cX2_init_2 4 = .ok (.aload_n 0, 1) := dk_42 (dk_at dksX2_init_2_0 4 rfl rfl)
theorem dX2_init_2_5 : decode cX2_init_2 5 = .ok (.iload_n 1, 1) := dk_27 (dk_at dksX2_init_2_0 5 rfl rfl)
theorem dX2_init_2_6 : decode cX2_init_2 6 = .ok (.putfield 12, 3) := dk_181 0 12 (dk_at dksX2_init_2_0 6 rfl rfl)
theorem dX2_init_2_9 : decode cX2_init_2 9 = .ok (.aload_n 0, 1) := dk_42 (dk_at dksX2_init_2_0 9 rfl rfl)
theorem dX2_init_2_10 : decode cX2_init_2 10 = .ok (.iload_n 2, 1) := dk_28 (dk_at dksX2_init_2_0 10 rfl rfl)
theorem dX2_init_2_11 : decode cX2_init_2 11 = .ok (.putfield 16, 3) := dk_181 0 16 (dk_at dksX2_init_2_0 11 rfl rfl)
theorem dX2_init_2_14 : decode cX2_init_2 14 = .ok (.aload_n 0, 1) := dk_42 (dk_at dksX2_init_2_0 14 rfl rfl)
theorem dX2_init_2_15 : decode cX2_init_2 15 = .ok (.iload_n 3, 1) := dk_29 (dk_at dksX2_init_2_0 15 rfl rfl)
theorem dX2_init_2_16 : decode cX2_init_2 16 = .ok (.putfield 20, 3) := dk_181 0 20 (dk_at dksX2_init_2_0 16 rfl rfl)
theorem dX2_init_2_19 : decode cX2_init_2 19 = .ok (.aload_n 0, 1) := dk_42 (dk_at dksX2_init_2_0 19 rfl rfl)
theorem dX2_init_2_20 : decode cX2_init_2 20 = .ok (.iload 4, 2) := dk_21 4 (dk_at dksX2_init_2_0 20 rfl rfl)
theorem dX2_init_2_22 : decode cX2_init_2 22 = .ok (.putfield 23, 3) := dk_181 0 23 (dk_at dksX2_init_2_1 0 rfl rfl)
theorem dX2_init_2_25 : decode cX2_init_2 25 = .ok (.aload_n 0, 1) := dk_42 (dk_at dksX2_init_2_1 3 rfl rfl)
theorem dX2_init_2_26 : decode cX2_init_2 26 = .ok (.iload 5, 2) := dk_21 5 (dk_at dksX2_init_2_1 4 rfl rfl)
theorem dX2_init_2_28 : decode cX2_init_2 28 = .ok (.putfield 26, 3) := dk_181 0 26 (dk_at dksX2_init_2_1 6 rfl rfl)
theorem dX2_init_2_31 : decode cX2_init_2 31 = .ok (.aload_n 0, 1) := dk_42 (dk_at dksX2_init_2_1 9 rfl rfl)
theorem dX2_init_2_32 : decode cX2_init_2 32 = .ok (.iload 6, 2) := dk_21 6 (dk_at dksX2_init_2_1 10 rfl rfl)
theorem dX2_init_2_34 : decode cX2_init_2 34 = .ok (.putfield 29, 3) := dk_181 0 29 (dk_at dksX2_init_2_1 12 rfl rfl)
theorem dX2_init_2_37 : decode cX2_init_2 37 = .ok (.aload_n 0, 1) := dk_42 (dk_at dksX2_init_2_1 15 rfl rfl)
theorem dX2_init_2_38 : decode cX2_init_2 38 = .ok (.iload 7, 2) := dk_21 7 (dk_at dksX2_init_2_1 16 rfl rfl)
theorem dX2_init_2_40 : decode cX2_init_2 40 = .ok (.putfield 32, 3) := dk_181 0 32 (dk_at dksX2_init_2_1 18 rfl rfl)
theorem dX2_init_2_43 : decode cX2_init_2 43 = .ok (.aload_n 0, 1) := dk_42 (dk_at dksX2_init_2_1 21 rfl rfl)
theorem dX2_init_2_44 : decode cX2_init_2 44 = .ok (.iload 8, 2) := dk_21 8 (dk_at dksX2_init_2_1 22 rfl rfl)
theorem dX2_init_2_46 : decode cX2_init_2 46 = .ok (.putfield 35, 3) := dk_181 0 35 (dk_at dksX2_init_2_2 0 rfl rfl)
theorem dX2_init_2_49 : decode cX2_init_2 49 = .ok (.return_, 1) := dk_177 (dk_at dksX2_init_2_2 3 rfl rfl)
abbrev cX2_getDataCapacity : ByteArray := prog_5_method_4_code
def yX2_getDataCapacity : MethodName := ⟨RX2, "getDataCapacity", "()I"⟩
theorem dX2_getDataCapacity_0 : decode cX2_getDataCapacity 0 = .ok (.aload_n 0, 1) := by decide +kernel
theorem dX2_getDataCapacity_1 : decode cX2_getDataCapacity 1 = .ok (.getfield 16, 3) := by decide +kernel
theorem dX2_getDataCapacity_4 : decode cX2_getDataCapacity 4 = .ok (.ireturn, 1) := by decide +kernel
abbrev cX2_getErrorCodewords : ByteArray := prog_5_method_5_code
def yX2_getErrorCodewords : MethodName := ⟨RX2, "getErrorCodewords", "()I"⟩
theorem dX2_getErrorCodewords_0 : decode cX2_getErrorCodewords 0 = .ok (.aload_n 0, 1) := by decide +kernel
theorem dX2_getErrorCodewords_1 : decode cX2_getErrorCodewords 1 = .ok (.getfield 20, 3) := by decide +kernel
theorem dX2_getErrorCodewords_4 : decode cX2_getErrorCodewords 4 = .ok (.ireturn, 1) := by decide +kernel
abbrev cX2_getInterleavedBlockCount : ByteArray := prog_5_method_3_code
def yX2_getInterleavedBlockCount : MethodName := ⟨RX2, "getInterleavedBlockCount", "()I"⟩
def dkwX2_getInterleavedBlockCount_0 : List UInt8 := [42, 180, 0, 16, 42, 180, 0, 32, 108, 172]
abbrev dktX2_getInterleavedBlockCount_0 : List UInt8 := dkwX2_getInterleavedBlockCount_0 ++ []
theorem dksX2_getInterleavedBlockCount_0 : cX2_getInterleavedBlockCount.data.toList.drop 0 = dktX2_getInterleavedBlockCount_0 := by decide +kernel
theorem dX2_getInterleavedBlockCount_0 : decode cX2_getInterleavedBlockCount 0 = .ok (.aload_n 0, 1) := dk_42 (dk_at dksX2_getInterleavedBlockCount_0 0 rfl rfl)
theorem dX2_getInterleavedBlockCount_1 : decode cX2_getInterleavedBlockCount 1 = .ok (.getfield 16, 3) := dk_180 0 16 (dk_at dksX2_getInterleavedBlockCount_0 1 rfl rfl)
theorem dX2_getInterleavedBlockCount_4 : decode cX2_getInterleavedBlockCount 4 = .ok (.aload_n 0, 1) := dk_42 (dk_at dksX2_getInterleavedBlockCount_0 4 rfl rfl)
theorem dX2_getInterleavedBlockCount_5 : decode cX2_getInterleavedBlockCount 5 = .ok (.getfield 32, 3) := dk_180 0 32 (dk_at dksX2_getInterleavedBlockCount_0 5 rfl rfl)
theorem dX2_getInterleavedBlockCount_8 : decode cX2_getInterleavedBlockCount 8 = .ok (.idiv, 1) := dk_108 (dk_at dksX2_getInterleavedBlockCount_0 8 rfl rfl)
theorem dX2_getInterleavedBlockCount_9 : decode cX2_getInterleavedBlockCount 9 = .ok (.ireturn, 1) := dk_172 (dk_at dksX2_getInterleavedBlockCount_0 9 rfl rfl)
abbrev cX2_getDataLengthForInterleavedBlock : ByteArray := prog_5_method_6_code
def yX2_getDataLengthForInterleavedBlock : MethodName := ⟨RX2, "getDataLengthForInterleavedBlock", "(I)I"⟩
theorem dX2_getDataLengthForInterleavedBlock_0 : decode cX2_getDataLengthForInterleavedBlock 0 = .ok (.aload_n 0, 1) := by decide +kernel
theorem dX2_getDataLengthForInterleavedBlock_1 : decode cX2_getDataLengthForInterleavedBlock 1 = .ok (.getfield 32, 3) := by decide +kernel
theorem dX2_getDataLengthForInterleavedBlock_4 : decode cX2_getDataLengthForInterleavedBlock 4 = .ok (.ireturn, 1) := by decide +kernel
abbrev cX2_getErrorLengthForInterleavedBlock : ByteArray := prog_5_method_7_code
def yX2_getErrorLengthForInterleavedBlock : MethodName := ⟨RX2, "getErrorLengthForInterleavedBlock", "(I)I"⟩
theorem dX2_getErrorLengthForInterleavedBlock_0 : decode cX2_getErrorLengthForInterleavedBlock 0 = .ok (.aload_n 0, 1) := by decide +kernel
theorem dX2_getErrorLengthForInterleavedBlock_1 : decode cX2_getErrorLengthForInterleavedBlock 1 = .ok (.getfield 35, 3) := by decide +kernel
theorem dX2_getErrorLengthForInterleavedBlock_4 : decode cX2_getErrorLengthForInterleavedBlock 4 = .ok (.ireturn, 1) := by decide +kernel
theorem q7 : (Jvm.Cond.initialized "SymbolInfo") ∈ lw_all := lw_g (lw_at lw_m1 6 rfl) rfl
theorem q130 : (Jvm.Cond.instantiable "SymbolInfo" (8 : Nat)) ∈ lw_all := lw_g (lw_at lw_m1 129 rfl) rfl
theorem q134 : (Jvm.Cond.instanceMethod ({ cls := "SymbolInfo", name := "<init>", desc := "(ZIIIII)V" } : Jvm.MethodName)) ∈ lw_all := lw_g (lw_at lw_m1 133 rfl) rfl
theorem q135 : (Jvm.Cond.code ({ cls := "SymbolInfo", name := "<init>", desc := "(ZIIIII)V" } : Jvm.MethodName) prog_5_method_1_code (7 : Nat) (Option.none : Option Jvm.ClassFile.FieldType)) ∈ lw_all := lw_g (lw_at lw_m1 134 rfl) rfl
theorem q136 : (Jvm.Cond.methodLink "SymbolInfo" (1 : Nat) ({ cls := "SymbolInfo", name := "<init>", desc := "(ZIIIIIII)V" } : Jvm.MethodName)) ∈ lw_all := lw_g (lw_at lw_m1 135 rfl) rfl
theorem q137 : (Jvm.Cond.instanceMethod ({ cls := "SymbolInfo", name := "<init>", desc := "(ZIIIIIII)V" } : Jvm.MethodName)) ∈ lw_all := lw_g (lw_at lw_m1 136 rfl) rfl
theorem q138 : (Jvm.Cond.code ({ cls := "SymbolInfo", name := "<init>", desc := "(ZIIIIIII)V" } : Jvm.MethodName) prog_5_method_2_code (9 : Nat) (Option.none : Option Jvm.ClassFile.FieldType)) ∈ lw_all := lw_g (lw_at lw_m1 137 rfl) rfl
theorem q139 : (Jvm.Cond.methodLink "SymbolInfo" (7 : Nat) ({ cls := "java/lang/Object", name := "<init>", desc := "()V" } : Jvm.MethodName)) ∈ lw_all := lw_g (lw_at lw_m1 138 rfl) rfl
theorem q140 : (Jvm.Cond.fieldLink "SymbolInfo" (12 : Nat) "SymbolInfo" "rectangular" "Z") ∈ lw_all := lw_g (lw_at lw_m1 139 rfl) rfl
theorem q141 : (Jvm.Cond.fieldLink "SymbolInfo" (16 : Nat) "SymbolInfo" "dataCapacity" "I") ∈ lw_all := lw_g (lw_at lw_m1 140 rfl) rfl
theorem q142 : (Jvm.Cond.fieldLink "SymbolInfo" (20 : Nat) "SymbolInfo" "errorCodewords" "I") ∈ lw_all := lw_g (lw_at lw_m1 141 rfl) rfl
theorem q143 : (Jvm.Cond.fieldLink "SymbolInfo" (23 : Nat) "SymbolInfo" "matrixWidth" "I") ∈ lw_all := lw_g (lw_at lw_m1 142 rfl) rfl
theorem q144 : (Jvm.Cond.fieldLink "SymbolInfo" (26 : Nat) "SymbolInfo" "matrixHeight" "I") ∈ lw_all := lw_g (lw_at lw_m1 143 rfl) rfl
theorem q145 : (Jvm.Cond.fieldLink "SymbolInfo" (29 : Nat) "SymbolInfo" "dataRegions" "I") ∈ lw_all := lw_g (lw_at lw_m1 144 rfl) rfl
theorem q146 : (Jvm.Cond.fieldLink "SymbolInfo" (32 : Nat) "SymbolInfo" "rsBlockData" "I") ∈ lw_all := lw_g (lw_at lw_m1 145 rfl) rfl
theorem q147 : (Jvm.Cond.fieldLink "SymbolInfo" (35 : Nat) "SymbolInfo" "rsBlockError" "I") ∈ lw_all := lw_g (lw_at lw_m1 146 rfl) rfl
theorem q148 : (Jvm.Cond.laysFinal "SymbolInfo" "SymbolInfo" "rectangular" "Z") ∈ lw_all := lw_g (lw_at lw_m1 147 rfl) rfl
theorem q149 : (Jvm.Cond.soleField "SymbolInfo" "rectangular") ∈ lw_all := lw_g (lw_at lw_m1 148 rfl) rfl
theorem q150 : (Jvm.Cond.laysFinal "SymbolInfo" "SymbolInfo" "dataCapacity" "I") ∈ lw_all := lw_g (lw_at lw_m1 149 rfl) rfl
theorem q151 : (Jvm.Cond.soleField "SymbolInfo" "dataCapacity") ∈ lw_all := lw_g (lw_at lw_m1 150 rfl) rfl
theorem q152 : (Jvm.Cond.laysFinal "SymbolInfo" "SymbolInfo" "errorCodewords" "I") ∈ lw_all := lw_g (lw_at lw_m1 151 rfl) rfl
theorem q153 : (Jvm.Cond.soleField "SymbolInfo" "errorCodewords") ∈ lw_all := lw_g (lw_at lw_m1 152 rfl) rfl
theorem q154 : (Jvm.Cond.laysFinal "SymbolInfo" "SymbolInfo" "matrixWidth" "I") ∈ lw_all := lw_g (lw_at lw_m1 153 rfl) rfl
theorem q155 : (Jvm.Cond.soleField "SymbolInfo" "matrixWidth") ∈ lw_all := lw_g (lw_at lw_m1 154 rfl) rfl
theorem q156 : (Jvm.Cond.laysFinal "SymbolInfo" "SymbolInfo" "matrixHeight" "I") ∈ lw_all := lw_g (lw_at lw_m1 155 rfl) rfl
theorem q157 : (Jvm.Cond.soleField "SymbolInfo" "matrixHeight") ∈ lw_all := lw_g (lw_at lw_m1 156 rfl) rfl
theorem q158 : (Jvm.Cond.laysFinal "SymbolInfo" "SymbolInfo" "dataRegions" "I") ∈ lw_all := lw_g (lw_at lw_m1 157 rfl) rfl
theorem q159 : (Jvm.Cond.soleField "SymbolInfo" "dataRegions") ∈ lw_all := lw_g (lw_at lw_m1 158 rfl) rfl
theorem q160 : (Jvm.Cond.laysFinal "SymbolInfo" "SymbolInfo" "rsBlockData" "I") ∈ lw_all := lw_g (lw_at lw_m1 159 rfl) rfl
theorem q161 : (Jvm.Cond.soleField "SymbolInfo" "rsBlockData") ∈ lw_all := lw_g (lw_at lw_m1 160 rfl) rfl
theorem q162 : (Jvm.Cond.laysFinal "SymbolInfo" "SymbolInfo" "rsBlockError" "I") ∈ lw_all := lw_g (lw_at lw_m1 161 rfl) rfl
theorem q163 : (Jvm.Cond.soleField "SymbolInfo" "rsBlockError") ∈ lw_all := lw_g (lw_at lw_m1 162 rfl) rfl
theorem q164 : (Jvm.Cond.superclass "SymbolInfo" "java/lang/Object") ∈ lw_all := lw_g (lw_at lw_m1 163 rfl) rfl
theorem q177 : (Jvm.Cond.instanceMethod ({ cls := "SymbolInfo", name := "getDataCapacity", desc := "()I" } : Jvm.MethodName)) ∈ lw_all := lw_g (lw_at lw_m1 176 rfl) rfl
theorem q178 : (Jvm.Cond.selects "SymbolInfo" ({ cls := "SymbolInfo", name := "getDataCapacity", desc := "()I" } : Jvm.MethodName) ({ cls := "SymbolInfo", name := "getDataCapacity", desc := "()I" } : Jvm.MethodName)) ∈ lw_all := lw_g (lw_at lw_m1 177 rfl) rfl
theorem q179 : (Jvm.Cond.code ({ cls := "SymbolInfo", name := "getDataCapacity", desc := "()I" } : Jvm.MethodName) prog_5_method_4_code (1 : Nat) (Option.some Jvm.ClassFile.FieldType.int)) ∈ lw_all := lw_g (lw_at lw_m1 178 rfl) rfl
theorem q248 : (Jvm.Cond.instanceMethod ({ cls := "SymbolInfo", name := "getErrorCodewords", desc := "()I" } : Jvm.MethodName)) ∈ lw_all := lw_g (lw_at lw_m2 7 rfl) rfl
theorem q249 : (Jvm.Cond.selects "SymbolInfo" ({ cls := "SymbolInfo", name := "getErrorCodewords", desc := "()I" } : Jvm.MethodName) ({ cls := "SymbolInfo", name := "getErrorCodewords", desc := "()I" } : Jvm.MethodName)) ∈ lw_all := lw_g (lw_at lw_m2 8 rfl) rfl
theorem q250 : (Jvm.Cond.code ({ cls := "SymbolInfo", name := "getErrorCodewords", desc := "()I" } : Jvm.MethodName) prog_5_method_5_code (1 : Nat) (Option.some Jvm.ClassFile.FieldType.int)) ∈ lw_all := lw_g (lw_at lw_m2 9 rfl) rfl
theorem q364 : (Jvm.Cond.instanceMethod ({ cls := "SymbolInfo", name := "getInterleavedBlockCount", desc := "()I" } : Jvm.MethodName)) ∈ lw_all := lw_g (lw_at lw_m2 123 rfl) rfl
theorem q365 : (Jvm.Cond.selects "SymbolInfo" ({ cls := "SymbolInfo", name := "getInterleavedBlockCount", desc := "()I" } : Jvm.MethodName) ({ cls := "SymbolInfo", name := "getInterleavedBlockCount", desc := "()I" } : Jvm.MethodName)) ∈ lw_all := lw_g (lw_at lw_m2 124 rfl) rfl
theorem q366 : (Jvm.Cond.code ({ cls := "SymbolInfo", name := "getInterleavedBlockCount", desc := "()I" } : Jvm.MethodName) prog_5_method_3_code (1 : Nat) (Option.some Jvm.ClassFile.FieldType.int)) ∈ lw_all := lw_g (lw_at lw_m2 125 rfl) rfl
theorem q471 : (Jvm.Cond.instanceMethod ({ cls := "SymbolInfo", name := "getDataLengthForInterleavedBlock", desc := "(I)I" } : Jvm.MethodName)) ∈ lw_all := lw_g (lw_at lw_m2 230 rfl) rfl
theorem q472 : (Jvm.Cond.selects "SymbolInfo" ({ cls := "SymbolInfo", name := "getDataLengthForInterleavedBlock", desc := "(I)I" } : Jvm.MethodName) ({ cls := "SymbolInfo", name := "getDataLengthForInterleavedBlock", desc := "(I)I" } : Jvm.MethodName)) ∈ lw_all := lw_g (lw_at lw_m2 231 rfl) rfl
theorem q473 : (Jvm.Cond.code ({ cls := "SymbolInfo", name := "getDataLengthForInterleavedBlock", desc := "(I)I" } : Jvm.MethodName) prog_5_method_6_code (2 : Nat) (Option.some Jvm.ClassFile.FieldType.int)) ∈ lw_all := lw_g (lw_at lw_m2 232 rfl) rfl
theorem q475 : (Jvm.Cond.instanceMethod ({ cls := "SymbolInfo", name := "getErrorLengthForInterleavedBlock", desc := "(I)I" } : Jvm.MethodName)) ∈ lw_all := lw_g (lw_at lw_m2 234 rfl) rfl
theorem q476 : (Jvm.Cond.selects "SymbolInfo" ({ cls := "SymbolInfo", name := "getErrorLengthForInterleavedBlock", desc := "(I)I" } : Jvm.MethodName) ({ cls := "SymbolInfo", name := "getErrorLengthForInterleavedBlock", desc := "(I)I" } : Jvm.MethodName)) ∈ lw_all := lw_g (lw_at lw_m2 235 rfl) rfl
theorem q477 : (Jvm.Cond.code ({ cls := "SymbolInfo", name := "getErrorLengthForInterleavedBlock", desc := "(I)I" } : Jvm.MethodName) prog_5_method_7_code (2 : Nat) (Option.some Jvm.ClassFile.FieldType.int)) ∈ lw_all := lw_g (lw_at lw_m2 236 rfl) rfl
theorem in_X2 : ∀ w ∈ wsX20, w ∈ lw_all := lw_in wsX20 [148, 150, 152, 154, 156, 158, 160, 162] (by decide +kernel) (by decide +kernel)
def RX3 : String := "ErrorCorrection"
abbrev cX3_encodeECC200 : ByteArray := prog_1_method_1_code
def yX3_encodeECC200 : MethodName := ⟨RX3, "encodeECC200", "(Ljava/lang/String;LSymbolInfo;)Ljava/lang/String;"⟩
def dkwX3_encodeECC200_11 : List UInt8 := [44, 182, 0, 61, 176]
abbrev dktX3_encodeECC200_11 : List UInt8 := dkwX3_encodeECC200_11 ++ []
def dkwX3_encodeECC200_10 : List UInt8 := [132, 9, 1, 182, 0, 54, 182, 0, 65, 21, 10, 29, 96, 54, 10, 167, 255, 217, 132, 6, 1, 167, 255, 135]
abbrev dktX3_encodeECC200_10 : List UInt8 := dkwX3_encodeECC200_10 ++ dktX3_encodeECC200_11
def dkwX3_encodeECC200_9 : List UInt8 := [25, 5, 21, 6, 46, 29, 104, 162, 0, 33, 44, 43, 182, 0, 7, 21, 10, 96, 25, 8, 21, 9]
abbrev dktX3_encodeECC200_9 : List UInt8 := dkwX3_encodeECC200_9 ++ dktX3_encodeECC200_10
def dkwX3_encodeECC200_8 : List UInt8 := [25, 7, 182, 0, 61, 25, 5, 21, 6, 46, 184, 0, 35, 58, 8, 3, 54, 9, 21, 6, 54, 10, 21, 10]
abbrev dktX3_encodeECC200_8 : List UInt8 := dkwX3_encodeECC200_8 ++ dktX3_encodeECC200_9
def dkwX3_encodeECC200_7 : List UInt8 := [162, 0, 24, 25, 7, 42, 21, 8, 182, 0, 54, 182, 0, 58, 87, 21, 8, 29, 96, 54, 8, 167, 255, 229]
abbrev dktX3_encodeECC200_7 : List UInt8 := dkwX3_encodeECC200_7 ++ dktX3_encodeECC200_8
def dkwX3_encodeECC200_6 : List UInt8 := [187, 0, 20, 89, 25, 4, 21, 6, 46, 183, 0, 25, 58, 7, 21, 6, 54, 8, 21, 8, 43, 182, 0, 7]
abbrev dktX3_encodeECC200_6 : List UInt8 := dkwX3_encodeECC200_6 ++ dktX3_encodeECC200_7
def dkwX3_encodeECC200_5 : List UInt8 := [21, 6, 4, 96, 182, 0, 51, 79, 132, 6, 1, 167, 255, 221, 3, 54, 6, 21, 6, 29, 162, 0, 121]
abbrev dktX3_encodeECC200_5 : List UInt8 := dkwX3_encodeECC200_5 ++ dktX3_encodeECC200_6
def dkwX3_encodeECC200_4 : List UInt8 := [21, 6, 29, 162, 0, 35, 25, 4, 21, 6, 43, 21, 6, 4, 96, 182, 0, 47, 79, 25, 5, 21, 6, 43]
abbrev dktX3_encodeECC200_4 : List UInt8 := dkwX3_encodeECC200_4 ++ dktX3_encodeECC200_5
def dkwX3_encodeECC200_3 : List UInt8 := [167, 0, 189, 44, 44, 182, 0, 41, 182, 0, 44, 29, 188, 10, 58, 4, 29, 188, 10, 58, 5, 3, 54, 6]
abbrev dktX3_encodeECC200_3 : List UInt8 := dkwX3_encodeECC200_3 ++ dktX3_encodeECC200_4
def dkwX3_encodeECC200_2 : List UInt8 := [62, 29, 4, 160, 0, 23, 42, 43, 182, 0, 22, 184, 0, 35, 58, 4, 44, 25, 4, 182, 0, 28, 87]
abbrev dktX3_encodeECC200_2 : List UInt8 := dkwX3_encodeECC200_2 ++ dktX3_encodeECC200_3
def dkwX3_encodeECC200_1 : List UInt8 := [89, 43, 182, 0, 7, 43, 182, 0, 22, 96, 183, 0, 25, 77, 44, 42, 182, 0, 28, 87, 43, 182, 0, 32]
abbrev dktX3_encodeECC200_1 : List UInt8 := dkwX3_encodeECC200_1 ++ dktX3_encodeECC200_2
def dkwX3_encodeECC200_0 : List UInt8 := [42, 182, 0, 1, 43, 182, 0, 7, 159, 0, 13, 187, 0, 12, 89, 18, 14, 183, 0, 16, 191, 187, 0, 20]
abbrev dktX3_encodeECC200_0 : List UInt8 := dkwX3_encodeECC200_0 ++ dktX3_encodeECC200_1
theorem dksX3_encodeECC200_0 : cX3_encodeECC200.data.toList.drop 0 = dktX3_encodeECC200_0 := by decide +kernel
theorem dksX3_encodeECC200_1 : cX3_encodeECC200.data.toList.drop 24 = dktX3_encodeECC200_1 := dk_seg dksX3_encodeECC200_0 24 rfl rfl
theorem dksX3_encodeECC200_2 : cX3_encodeECC200.data.toList.drop 48 = dktX3_encodeECC200_2 := dk_seg dksX3_encodeECC200_1 24 rfl rfl
theorem dksX3_encodeECC200_3 : cX3_encodeECC200.data.toList.drop 71 = dktX3_encodeECC200_3 := dk_seg dksX3_encodeECC200_2 23 rfl rfl
theorem dksX3_encodeECC200_4 : cX3_encodeECC200.data.toList.drop 95 = dktX3_encodeECC200_4 := dk_seg dksX3_encodeECC200_3 24 rfl rfl
theorem dksX3_encodeECC200_5 : cX3_encodeECC200.data.toList.drop 119 = dktX3_encodeECC200_5 := dk_seg dksX3_encodeECC200_4 24 rfl rfl
theorem dksX3_encodeECC200_6 : cX3_encodeECC200.data.toList.drop 142 = dktX3_encodeECC200_6 := dk_seg dksX3_encodeECC200_5 23 rfl rfl
theorem dksX3_encodeECC200_7 : cX3_encodeECC200.data.toList.drop 166 = dktX3_encodeECC200_7 := dk_seg dksX3_encodeECC200_6 24 rfl rfl
theorem dksX3_encodeECC200_8 : cX3_encodeECC200.data.toList.drop 190 = dktX3_encodeECC200_8 := dk_seg dksX3_encodeECC200_7 24 rfl rfl
theorem dksX3_encodeECC200_9 : cX3_encodeECC200.data.toList.drop 214 = dktX3_encodeECC200_9 := dk_seg dksX3_encodeECC200_8 24 rfl rfl
theorem dksX3_encodeECC200_10 : cX3_encodeECC200.data.toList.drop 236 = dktX3_encodeECC200_10 := dk_seg dksX3_encodeECC200_9 22 rfl rfl
theorem dksX3_encodeECC200_11 : cX3_encodeECC200.data.toList.drop 260 = dktX3_encodeECC200_11 := dk_seg dksX3_encodeECC200_10 24 rfl rfl
theorem dX3_encodeECC200_0 : decode cX3_encodeECC200 0 = .ok (.aload_n 0, 1) := dk_42 (dk_at dksX3_encodeECC200_0 0 rfl rfl)
theorem dX3_encodeECC200_1 : decode cX3_encodeECC200 1 = .ok (.invokevirtual 1, 3) := dk_182 0 1 (dk_at dksX3_encodeECC200_0 1 rfl rfl)
theorem dX3_encodeECC200_4 : decode cX3_encodeECC200 4 = .ok (.aload_n 1, 1) := dk_43 (dk_at dksX3_encodeECC200_0 4 rfl rfl)
theorem dX3_encodeECC200_5 : decode cX3_encodeECC200 5 = .ok (.invokevirtual 7, 3) := dk_182 0 7 (dk_at dksX3_encodeECC200_0 5 rfl rfl)
theorem dX3_encodeECC200_8 : decode cX3_encodeECC200 8 = .ok (.if_icmp .eq 13, 3) := dk_159 0 13 (dk_at dksX3_encodeECC200_0 8 rfl rfl)
theorem dX3_encodeECC200_11 : decode cX3_encodeECC200 11 = .ok (.new 12, 3) := dk_187 0 12 (dk_at dksX3_encodeECC200_0 11 rfl rfl)
theorem dX3_encodeECC200_14 : decode cX3_encodeECC200 14 = .ok (.dup, 1) := dk_89 (dk_at dksX3_encodeECC200_0 14 rfl rfl)
theorem dX3_encodeECC200_15 : decode cX3_encodeECC200 15 = .ok (.ldc 14, 2) := dk_18 14 (dk_at dksX3_encodeECC200_0 15 rfl rfl)
theorem dX3_encodeECC200_17 : decode cX3_encodeECC200 17 = .ok (.invokespecial 16, 3) := dk_183 0 16 (dk_at dksX3_encodeECC200_0 17 rfl rfl)
theorem dX3_encodeECC200_20 : decode cX3_encodeECC200 20 = .ok (.athrow, 1) := dk_191 (dk_at dksX3_encodeECC200_0 20 rfl rfl)
theorem dX3_encodeECC200_21 : decode cX3_encodeECC200 21 = .ok (.new 20, 3) := dk_187 0 20 (dk_at dksX3_encodeECC200_0 21 rfl rfl)
theorem dX3_encodeECC200_24 : decode cX3_encodeECC200 24 = .ok (.dup, 1) := dk_89 (dk_at dksX3_encodeECC200_1 0 rfl rfl)
theorem dX3_encodeECC200_25 : decode cX3_encodeECC200 25 = .ok (.aload_n 1, 1) := dk_43 (dk_at dksX3_encodeECC200_1 1 rfl rfl)
theorem dX3_encodeECC200_26 : decode cX3_encodeECC200 26 = .ok (.invokevirtual 7, 3) := dk_182 0 7 (dk_at dksX3_encodeECC200_1 2 rfl rfl)
theorem dX3_encodeECC200_29 : decode cX3_encodeECC200 29 = .ok (.aload_n 1, 1) := dk_43 (dk_at dksX3_encodeECC200_1 5 rfl rfl)
theorem dX3_encodeECC200_30 : decode cX3_encodeECC200 30 = .ok (.invokevirtual 22, 3) := dk_182 0 22 (dk_at dksX3_encodeECC200_1 6 rfl rfl)
theorem dX3_encodeECC200_33 : decode cX3_encodeECC200 33 = .ok (.iadd, 1) := dk_96 (dk_at dksX3_encodeECC200_1 9 rfl rfl)
theorem dX3_encodeECC200_34 : decode cX3_encodeECC200 34 = .ok (.invokespecial 25, 3) := dk_183 0 25 (dk_at dksX3_encodeECC200_1 10 rfl rfl)
theorem dX3_encodeECC200_37 : decode cX3_encodeECC200 37 = .ok (.astore_n 2, 1) := dk_77 (dk_at dksX3_encodeECC200_1 13 rfl rfl)
theorem dX3_encodeECC200_38 : decode cX3_encodeECC200 38 = .ok (.aload_n 2, 1) := dk_44 (dk_at dksX3_encodeECC200_1 14 rfl rfl)
theorem dX3_encodeECC200_39 : decode cX3_encodeECC200 39 = .ok (.aload_n 0, 1) := dk_42 (dk_at dksX3_encodeECC200_1 15 rfl rfl)
theorem dX3_encodeECC200_40 : decode cX3_encodeECC200 40 = .ok (.invokevirtual 28, 3) := dk_182 0 28 (dk_at dksX3_encodeECC200_1 16 rfl rfl)
theorem dX3_encodeECC200_43 : decode cX3_encodeECC200 43 = .ok (.pop, 1) := dk_87 (dk_at dksX3_encodeECC200_1 19 rfl rfl)
theorem dX3_encodeECC200_44 : decode cX3_encodeECC200 44 = .ok (.aload_n 1, 1) := dk_43 (dk_at dksX3_encodeECC200_1 20 rfl rfl)
theorem dX3_encodeECC200_45 : decode cX3_encodeECC200 45 = .ok (.invokevirtual 32, 3) := dk_182 0 32 (dk_at dksX3_encodeECC200_1 21 rfl rfl)
theorem dX3_encodeECC200_48 : decode cX3_encodeECC200 48 = .ok (.istore_n 3, 1) := dk_62 (dk_at dksX3_encodeECC200_2 0 rfl rfl)
theorem dX3_encodeECC200_49 : decode cX3_encodeECC200 49 = .ok (.iload_n 3, 1) := dk_29 (dk_at dksX3_encodeECC200_2 1 rfl rfl)
theorem dX3_encodeECC200_50 : decode cX3_encodeECC200 50 = .ok (.iconst 1, 1) := dk_4 (dk_at dksX3_encodeECC200_2 2 rfl rfl)
theorem dX3_encodeECC200_51 : decode cX3_encodeECC200 51 = .ok (.if_icmp .ne 23, 3) := dk_160 0 23 (dk_at dksX3_encodeECC200_2 3 rfl rfl)
theorem dX3_encodeECC200_54 : decode cX3_encodeECC200 54 = .ok (.aload_n 0, 1) := dk_42 (dk_at dksX3_encodeECC200_2 6 rfl rfl)
theorem dX3_encodeECC200_55 : decode cX3_encodeECC200 55 = .ok (.aload_n 1, 1) := dk_43 (dk_at dksX3_encodeECC200_2 7 rfl rfl)
theorem dX3_encodeECC200_56 : decode cX3_encodeECC200 56 = .ok (.invokevirtual 22, 3) := dk_182 0 22 (dk_at dksX3_encodeECC200_2 8 rfl rfl)
theorem dX3_encodeECC200_59 : decode cX3_encodeECC200 59 = .ok (.invokestatic 35, 3) := dk_184 0 35 (dk_at dksX3_encodeECC200_2 11 rfl rfl)
theorem dX3_encodeECC200_62 : decode cX3_encodeECC200 62 = .ok (.astore 4, 2) := dk_58 4 (dk_at dksX3_encodeECC200_2 14 rfl rfl)
theorem dX3_encodeECC200_64 : decode cX3_encodeECC200 64 = .ok (.aload_n 2, 1) := dk_44 (dk_at dksX3_encodeECC200_2 16 rfl rfl)
theorem dX3_encodeECC200_65 : decode cX3_encodeECC200 65 = .ok (.aload 4, 2) := dk_25 4 (dk_at dksX3_encodeECC200_2 17 rfl rfl)
theorem dX3_encodeECC200_67 : decode cX3_encodeECC200 67 = .ok (.invokevirtual 28, 3) := dk_182 0 28 (dk_at dksX3_encodeECC200_2 19 rfl rfl)
theorem dX3_encodeECC200_70 : decode cX3_encodeECC200 70 = .ok (.pop, 1) := dk_87 (dk_at dksX3_encodeECC200_2 22 rfl rfl)
theorem dX3_encodeECC200_71 : decode cX3_encodeECC200 71 = .ok (.goto 189, 3) := dk_167 0 189 (dk_at dksX3_encodeECC200_3 0 rfl rfl)
theorem dX3_encodeECC200_74 : decode cX3_encodeECC200 74 = .ok (.aload_n 2, 1) := dk_44 (dk_at dksX3_encodeECC200_3 3 rfl rfl)
theorem dX3_encodeECC200_75 : decode cX3_encodeECC200 75 = .ok (.aload_n 2, 1) := dk_44 (dk_at dksX3_encodeECC200_3 4 rfl rfl)
theorem dX3_encodeECC200_76 : decode cX3_encodeECC200 76 = .ok (.invokevirtual 41, 3) := dk_182 0 41 (dk_at dksX3_encodeECC200_3 5 rfl rfl)
theorem dX3_encodeECC200_79 : decode cX3_encodeECC200 79 = .ok (.invokevirtual 44, 3) := dk_182 0 44 (dk_at dksX3_encodeECC200_3 8 rfl rfl)
theorem dX3_encodeECC200_82 : decode cX3_encodeECC200 82 = .ok (.iload_n 3, 1) := dk_29 (dk_at dksX3_encodeECC200_3 11 rfl rfl)
theorem dX3_encodeECC200_83 : decode cX3_encodeECC200 83 = .ok (.newarray .int, 2) := dk_188_10 (dk_at dksX3_encodeECC200_3 12 rfl rfl)
theorem dX3_encodeECC200_85 : decode cX3_encodeECC200 85 = .ok (.astore 4, 2) := dk_58 4 (dk_at dksX3_encodeECC200_3 14 rfl rfl)
theorem dX3_encodeECC200_87 : decode cX3_encodeECC200 87 = .ok (.iload_n 3, 1) := dk_29 (dk_at dksX3_encodeECC200_3 16 rfl rfl)
theorem dX3_encodeECC200_88 : decode cX3_encodeECC200 88 = .ok (.newarray .int, 2) := dk_188_10 (dk_at dksX3_encodeECC200_3 17 rfl rfl)
theorem dX3_encodeECC200_90 : decode cX3_encodeECC200 90 = .ok (.astore 5, 2) := dk_58 5 (dk_at dksX3_encodeECC200_3 19 rfl rfl)
theorem dX3_encodeECC200_92 : decode cX3_encodeECC200 92 = .ok (.iconst 0, 1) := dk_3 (dk_at dksX3_encodeECC200_3 21 rfl rfl)
theorem dX3_encodeECC200_93 : decode cX3_encodeECC200 93 = .ok (.istore 6, 2) := dk_54 6 (dk_at dksX3_encodeECC200_3 22 rfl rfl)
theorem dX3_encodeECC200_95 : decode cX3_encodeECC200 95 = .ok (.iload 6, 2) := dk_21 6 (dk_at dksX3_encodeECC200_4 0 rfl rfl)
theorem dX3_encodeECC200_97 : decode cX3_encodeECC200 97 = .ok (.iload_n 3, 1) := dk_29 (dk_at dksX3_encodeECC200_4 2 rfl rfl)
theorem dX3_encodeECC200_98 : decode cX3_encodeECC200 98 = .ok (.if_icmp .ge 35, 3) := dk_162 0 35 (dk_at dksX3_encodeECC200_4 3 rfl rfl)
theorem dX3_encodeECC200_101 : decode cX3_encodeECC200 101 = .ok (.aload 4, 2) := dk_25 4 (dk_at dksX3_encodeECC200_4 6 rfl rfl)
theorem dX3_encodeECC200_103 : decode cX3_encodeECC200 103 = .ok (.iload 6, 2) := dk_21 6 (dk_at dksX3_encodeECC200_4 8 rfl rfl)
theorem dX3_encodeECC200_105 : decode cX3_encodeECC200 105 = .ok (.aload_n 1, 1) := dk_43 (dk_at dksX3_encodeECC200_4 10 rfl rfl)
theorem dX3_encodeECC200_106 : decode cX3_encodeECC200 106 = .ok (.iload 6, 2) := dk_21 6 (dk_at dksX3_encodeECC200_4 11 rfl rfl)
theorem dX3_encodeECC200_108 : decode cX3_encodeECC200 108 = .ok (.iconst 1, 1) := dk_4 (dk_at dksX3_encodeECC200_4 13 rfl rfl)
theorem dX3_encodeECC200_109 : decode cX3_encodeECC200 109 = .ok (.iadd, 1) := dk_96 (dk_at dksX3_encodeECC200_4 14 rfl rfl)
theorem dX3_encodeECC200_110 : decode cX3_encodeECC200 110 = .ok (.invokevirtual 47, 3) := dk_182 0 47 (dk_at dksX3_encodeECC200_4 15 rfl rfl)
theorem dX3_encodeECC200_113 : decode cX3_encodeECC200 113 = .ok (.iastore, 1) := dk_79 (dk_at dksX3_encodeECC200_4 18 rfl rfl)
theorem dX3_encodeECC200_114 : decode cX3_encodeECC200 114 = .ok (.aload 5, 2) := dk_25 5 (dk_at dksX3_encodeECC200_4 19 rfl rfl)
theorem dX3_encodeECC200_116 : decode cX3_encodeECC200 116 = .ok (.iload 6, 2) := dk_21 6 (dk_at dksX3_encodeECC200_4 21 rfl rfl)
theorem dX3_encodeECC200_118 : decode cX3_encodeECC200 118 = .ok (.aload_n 1, 1) := dk_43 (dk_at dksX3_encodeECC200_4 23 rfl rfl)
theorem dX3_encodeECC200_119 : decode cX3_encodeECC200 119 = .ok (.iload 6, 2) := dk_21 6 (dk_at dksX3_encodeECC200_5 0 rfl rfl)
theorem dX3_encodeECC200_121 : decode cX3_encodeECC200 121 = .ok (.iconst 1, 1) := dk_4 (dk_at dksX3_encodeECC200_5 2 rfl rfl)
theorem dX3_encodeECC200_122 : decode cX3_encodeECC200 122 = .ok (.iadd, 1) := dk_96 (dk_at dksX3_encodeECC200_5 3 rfl rfl)
theorem dX3_encodeECC200_123 : decode cX3_encodeECC200 123 = .ok (.invokevirtual 51, 3) := dk_182 0 51 (dk_at dksX3_encodeECC200_5 4 rfl rfl)
theorem dX3_encodeECC200_126 : decode cX3_encodeECC200 126 = .ok (.iastore, 1) := dk_79 (dk_at dksX3_encodeECC200_5 7 rfl rfl)
theorem dX3_encodeECC200_127 : decode cX3_encodeECC200 127 = .ok (.iinc 6 1, 3) := dk_132 6 1 (dk_at dksX3_encodeECC200_5 8 rfl rfl)
theorem dX3_encodeECC200_130 : decode cX3_encodeECC200 130 = .ok (.goto (-35), 3) := dk_167 255 221 (dk_at dksX3_encodeECC200_5 11 rfl rfl)
theorem dX3_encodeECC200_133 : decode cX3_encodeECC200 133 = .ok (.iconst 0, 1) := dk_3 (dk_at dksX3_encodeECC200_5 14 rfl rfl)
theorem dX3_encodeECC200_134 : decode cX3_encodeECC200 134 = .ok (.istore 6, 2) := dk_54 6 (dk_at dksX3_encodeECC200_5 15 rfl rfl)
theorem dX3_encodeECC200_136 : decode cX3_encodeECC200 136 = .ok (.iload 6, 2) := dk_21 6 (dk_at dksX3_encodeECC200_5 17 rfl rfl)
theorem dX3_encodeECC200_138 : decode cX3_encodeECC200 138 = .ok (.iload_n 3, 1) := dk_29 (dk_at dksX3_encodeECC200_5 19 rfl rfl)
theorem dX3_encodeECC200_139 : decode cX3_encodeECC200 139 = .ok (.if_icmp .ge 121, 3) := dk_162 0 121 (dk_at dksX3_encodeECC200_5 20 rfl rfl)
theorem dX3_encodeECC200_142 : decode cX3_encodeECC200 142 = .ok (.new 20, 3) := dk_187 0 20 (dk_at dksX3_encodeECC200_6 0 rfl rfl)
theorem dX3_encodeECC200_145 : decode cX3_encodeECC200 145 = .ok (.dup, 1) := dk_89 (dk_at dksX3_encodeECC200_6 3 rfl rfl)
theorem dX3_encodeECC200_146 : decode cX3_encodeECC200 146 = .ok (.aload 4, 2) := dk_25 4 (dk_at dksX3_encodeECC200_6 4 rfl rfl)
theorem dX3_encodeECC200_148 : decode cX3_encodeECC200 148 = .ok (.iload 6, 2) := dk_21 6 (dk_at dksX3_encodeECC200_6 6 rfl rfl)
theorem dX3_encodeECC200_150 : decode cX3_encodeECC200 150 = .ok (.iaload, 1) := dk_46 (dk_at dksX3_encodeECC200_6 8 rfl rfl)
theorem dX3_encodeECC200_151 : decode cX3_encodeECC200 151 = .ok (.invokespecial 25, 3) := dk_183 0 25 (dk_at dksX3_encodeECC200_6 9 rfl rfl)
theorem dX3_encodeECC200_154 : decode cX3_encodeECC200 154 = .ok (.astore 7, 2) := dk_58 7 (dk_at dksX3_encodeECC200_6 12 rfl rfl)
theorem dX3_encodeECC200_156 : decode cX3_encodeECC200 156 = .ok (.iload 6, 2) := dk_21 6 (dk_at dksX3_encodeECC200_6 14 rfl rfl)
theorem dX3_encodeECC200_158 : decode cX3_encodeECC200 158 = .ok (.istore 8, 2) := dk_54 8 (dk_at dksX3_encodeECC200_6 16 rfl rfl)
theorem dX3_encodeECC200_160 : decode cX3_encodeECC200 160 = .ok (.iload 8, 2) := dk_21 8 (dk_at dksX3_encodeECC200_6 18 rfl rfl)
theorem dX3_encodeECC200_162 : decode cX3_encodeECC200 162 = .ok (.aload_n 1, 1) := dk_43 (dk_at dksX3_encodeECC200_6 20 rfl rfl)
theorem dX3_encodeECC200_163 : decode cX3_encodeECC200 163 = .ok (.invokevirtual 7, 3) := dk_182 0 7 (dk_at dksX3_encodeECC200_6 21 rfl rfl)
theorem dX3_encodeECC200_166 : decode cX3_encodeECC200 166 = .ok (.if_icmp .ge 24, 3) := dk_162 0 24 (dk_at dksX3_encodeECC200_7 0 rfl rfl)
theorem dX3_encodeECC200_169 : decode cX3_encodeECC200 169 = .ok (.aload 7, 2) := dk_25 7 (dk_at dksX3_encodeECC200_7 3 rfl rfl)
theorem dX3_encodeECC200_171 : decode cX3_encodeECC200 171 = .ok (.aload_n 0, 1) := dk_42 (dk_at dksX3_encodeECC200_7 5 rfl rfl)
theorem dX3_encodeECC200_172 : decode cX3_encodeECC200 172 = .ok (.iload 8, 2) := dk_21 8 (dk_at dksX3_encodeECC200_7 6 rfl rfl)
theorem dX3_encodeECC200_174 : decode cX3_encodeECC200 174 = .ok (.invokevirtual 54, 3) := dk_182 0 54 (dk_at dksX3_encodeECC200_7 8 rfl rfl)
theorem dX3_encodeECC200_177 : decode cX3_encodeECC200 177 = .ok (.invokevirtual 58, 3) := dk_182 0 58 (dk_at dksX3_encodeECC200_7 11 rfl rfl)
theorem dX3_encodeECC200_180 : decode cX3_encodeECC200 180 = .ok (.pop, 1) := dk_87 (dk_at dksX3_encodeECC200_7 14 rfl rfl)
theorem dX3_encodeECC200_181 : decode cX3_encodeECC200 181 = .ok (.iload 8, 2) := dk_21 8 (dk_at dksX3_encodeECC200_7 15 rfl rfl)
theorem dX3_encodeECC200_183 : decode cX3_encodeECC200 183 = .ok (.iload_n 3, 1) := dk_29 (dk_at dksX3_encodeECC200_7 17 rfl rfl)
theorem dX3_encodeECC200_184 : decode cX3_encodeECC200 184 = .ok (.iadd, 1) := dk_96 (dk_at dksX3_encodeECC200_7 18 rfl rfl)
theorem dX3_encodeECC200_185 : decode cX3_encodeECC200 185 = .ok (.istore 8, 2) := dk_54 8 (dk_at dksX3_encodeECC200_7 19 rfl rfl)
theorem dX3_encodeECC200_187 : decode cX3_encodeECC200 187 = .ok (.goto (-27), 3) := dk_167 255 229 (dk_at dksX3_encodeECC200_7 21 rfl rfl)
theorem dX3_encodeECC200_190 : decode cX3_encodeECC200 190 = .ok (.aload 7, 2) := dk_25 7 (dk_at dksX3_encodeECC200_8 0 rfl rfl)
theorem dX3_encodeECC200_192 : decode cX3_encodeECC200 192 = .ok (.invokevirtual 61, 3) := dk_182 0 61 (dk_at dksX3_encodeECC200_8 2 rfl rfl)
theorem dX3_encodeECC200_195 : decode cX3_encodeECC200 195 = .ok (.aload 5, 2) := dk_25 5 (dk_at dksX3_encodeECC200_8 5 rfl rfl)
theorem dX3_encodeECC200_197 : decode cX3_encodeECC200 197 = .ok (.iload 6, 2) := dk_21 6 (dk_at dksX3_encodeECC200_8 7 rfl rfl)
theorem dX3_encodeECC200_199 : decode cX3_encodeECC200 199 = .ok (.iaload, 1) := dk_46 (dk_at dksX3_encodeECC200_8 9 rfl rfl)
theorem dX3_encodeECC200_200 : decode cX3_encodeECC200 200 = .ok (.invokestatic 35, 3) := dk_184 0 35 (dk_at dksX3_encodeECC200_8 10 rfl rfl)
theorem dX3_encodeECC200_203 : decode cX3_encodeECC200 203 = .ok (.astore 8, 2) := dk_58 8 (dk_at dksX3_encodeECC200_8 13 rfl rfl)
theorem dX3_encodeECC200_205 : decode cX3_encodeECC200 205 = .ok (.iconst 0, 1) := dk_3 (dk_at dksX3_encodeECC200_8 15 rfl rfl)
theorem dX3_encodeECC200_206 : decode cX3_encodeECC200 206 = .ok (.istore 9, 2) := dk_54 9 (dk_at dksX3_encodeECC200_8 16 rfl rfl)
theorem dX3_encodeECC200_208 : decode cX3_encodeECC200 208 = .ok (.iload 6, 2) := dk_21 6 (dk_at dksX3_encodeECC200_8 18 rfl rfl)
theorem dX3_encodeECC200_210 : decode cX3_encodeECC200 210 = .ok (.istore 10, 2) := dk_54 10 (dk_at dksX3_encodeECC200_8 20 rfl rfl)
theorem dX3_encodeECC200_212 : decode cX3_encodeECC200 212 = .ok (.iload 10, 2) := dk_21 10 (dk_at dksX3_encodeECC200_8 22 rfl rfl)
theorem dX3_encodeECC200_214 : decode cX3_encodeECC200 214 = .ok (.aload 5, 2) := dk_25 5 (dk_at dksX3_encodeECC200_9 0 rfl rfl)
theorem dX3_encodeECC200_216 : decode cX3_encodeECC200 216 = .ok (.iload 6, 2) := dk_21 6 (dk_at dksX3_encodeECC200_9 2 rfl rfl)
theorem dX3_encodeECC200_218 : decode cX3_encodeECC200 218 = .ok (.iaload, 1) := dk_46 (dk_at dksX3_encodeECC200_9 4 rfl rfl)
theorem dX3_encodeECC200_219 : decode cX3_encodeECC200 219 = .ok (.iload_n 3, 1) := dk_29 (dk_at dksX3_encodeECC200_9 5 rfl rfl)
theorem dX3_encodeECC200_220 : decode cX3_encodeECC200 220 = .ok (.imul, 1) := dk_104 (dk_at dksX3_encodeECC200_9 6 rfl rfl)
theorem dX3_encodeECC200_221 : decode cX3_encodeECC200 221 = .ok (.if_icmp .ge 33, 3) := dk_162 0 33 (dk_at dksX3_encodeECC200_9 7 rfl rfl)
theorem dX3_encodeECC200_224 : decode cX3_encodeECC200 224 = .ok (.aload_n 2, 1) := dk_44 (dk_at dksX3_encodeECC200_9 10 rfl rfl)
theorem dX3_encodeECC200_225 : decode cX3_encodeECC200 225 = .ok (.aload_n 1, 1) := dk_43 (dk_at dksX3_encodeECC200_9 11 rfl rfl)
theorem dX3_encodeECC200_226 : decode cX3_encodeECC200 226 = .ok (.invokevirtual 7, 3) := dk_182 0 7 (dk_at dksX3_encodeECC200_9 12 rfl rfl)
theorem dX3_encodeECC200_229 : decode cX3_encodeECC200 229 = .ok (.iload 10, 2) := dk_21 10 (dk_at dksX3_encodeECC200_9 15 rfl rfl)
theorem dX3_encodeECC200_231 : decode cX3_encodeECC200 231 = .ok (.iadd, 1) := dk_96 (dk_at dksX3_encodeECC200_9 17 rfl rfl)
theorem dX3_encodeECC200_232 : decode cX3_encodeECC200 232 = .ok (.aload 8, 2) := dk_25 8 (dk_at dksX3_encodeECC200_9 18 rfl rfl)
theorem dX3_encodeECC200_234 : decode cX3_encodeECC200 234 = .ok (.iload 9, 2) := dk_21 9 (dk_at dksX3_encodeECC200_9 20 rfl rfl)
theorem dX3_encodeECC200_236 : decode cX3_encodeECC200 236 = .ok (.iinc 9 1, 3) := dk_132 9 1 (dk_at dksX3_encodeECC200_10 0 rfl rfl)
theorem dX3_encodeECC200_239 : decode cX3_encodeECC200 239 = .ok (.invokevirtual 54, 3) := dk_182 0 54 (dk_at dksX3_encodeECC200_10 3 rfl rfl)
theorem dX3_encodeECC200_242 : decode cX3_encodeECC200 242 = .ok (.invokevirtual 65, 3) := dk_182 0 65 (dk_at dksX3_encodeECC200_10 6 rfl rfl)
theorem dX3_encodeECC200_245 : decode cX3_encodeECC200 245 = .ok (.iload 10, 2) := dk_21 10 (dk_at dksX3_encodeECC200_10 9 rfl rfl)
theorem dX3_encodeECC200_247 : decode cX3_encodeECC200 247 = .ok (.iload_n 3, 1) := dk_29 (dk_at dksX3_encodeECC200_10 11 rfl rfl)
theorem dX3_encodeECC200_248 : decode cX3_encodeECC200 248 = .ok (.iadd, 1) := dk_96 (dk_at dksX3_encodeECC200_10 12 rfl rfl)
theorem dX3_encodeECC200_249 : decode cX3_encodeECC200 249 = .ok (.istore 10, 2) := dk_54 10 (dk_at dksX3_encodeECC200_10 13 rfl rfl)
theorem dX3_encodeECC200_251 : decode cX3_encodeECC200 251 = .ok (.goto (-39), 3) := dk_167 255 217 (dk_at dksX3_encodeECC200_10 15 rfl rfl)
theorem dX3_encodeECC200_254 : decode cX3_encodeECC200 254 = .ok (.iinc 6 1, 3) := dk_132 6 1 (dk_at dksX3_encodeECC200_10 18 rfl rfl)
theorem dX3_encodeECC200_257 : decode cX3_encodeECC200 257 = .ok (.goto (-121), 3) := dk_167 255 135 (dk_at dksX3_encodeECC200_10 21 rfl rfl)
theorem dX3_encodeECC200_260 : decode cX3_encodeECC200 260 = .ok (.aload_n 2, 1) := dk_44 (dk_at dksX3_encodeECC200_11 0 rfl rfl)
theorem dX3_encodeECC200_261 : decode cX3_encodeECC200 261 = .ok (.invokevirtual 61, 3) := dk_182 0 61 (dk_at dksX3_encodeECC200_11 1 rfl rfl)
theorem dX3_encodeECC200_264 : decode cX3_encodeECC200 264 = .ok (.areturn, 1) := dk_176 (dk_at dksX3_encodeECC200_11 4 rfl rfl)
abbrev cX3_createECCBlock : ByteArray := prog_1_method_2_code
def yX3_createECCBlock : MethodName := ⟨RX3, "createECCBlock", "(Ljava/lang/CharSequence;I)Ljava/lang/String;"⟩
def dkwX3_createECCBlock_11 : List UInt8 := [21, 6, 25, 4, 27, 21, 6, 100, 4, 100, 52, 85, 132, 6, 1, 167, 255, 233, 25, 5, 184, 0, 89, 176]
abbrev dktX3_createECCBlock_11 : List UInt8 := dkwX3_createECCBlock_11 ++ []
def dkwX3_createECCBlock_10 : List UInt8 := [3, 85, 132, 5, 1, 167, 255, 99, 27, 188, 5, 58, 5, 3, 54, 6, 21, 6, 27, 162, 0, 23, 25, 5]
abbrev dktX3_createECCBlock_10 : List UInt8 := dkwX3_createECCBlock_10 ++ dktX3_createECCBlock_11
def dkwX3_createECCBlock_9 : List UInt8 := [21, 6, 46, 178, 0, 86, 45, 3, 46, 46, 96, 17, 0, 255, 112, 46, 146, 85, 167, 0, 8, 25, 4, 3]
abbrev dktX3_createECCBlock_9 : List UInt8 := dkwX3_createECCBlock_9 ++ dktX3_createECCBlock_10
def dkwX3_createECCBlock_8 : List UInt8 := [167, 255, 184, 21, 6, 153, 0, 39, 45, 3, 46, 153, 0, 33, 25, 4, 3, 178, 0, 83, 178, 0, 86]
abbrev dktX3_createECCBlock_8 : List UInt8 := dkwX3_createECCBlock_8 ++ dktX3_createECCBlock_9
def dkwX3_createECCBlock_7 : List UInt8 := [46, 130, 146, 85, 167, 0, 15, 25, 4, 21, 7, 25, 4, 21, 7, 4, 100, 52, 85, 132, 7, 255]
abbrev dktX3_createECCBlock_7 : List UInt8 := dkwX3_createECCBlock_7 ++ dktX3_createECCBlock_8
def dkwX3_createECCBlock_6 : List UInt8 := [100, 52, 178, 0, 83, 178, 0, 86, 21, 6, 46, 178, 0, 86, 45, 21, 7, 46, 46, 96, 17, 0, 255, 112]
abbrev dktX3_createECCBlock_6 : List UInt8 := dkwX3_createECCBlock_6 ++ dktX3_createECCBlock_7
def dkwX3_createECCBlock_5 : List UInt8 := [158, 0, 73, 21, 6, 153, 0, 50, 45, 21, 7, 46, 153, 0, 43, 25, 4, 21, 7, 25, 4, 21, 7, 4]
abbrev dktX3_createECCBlock_5 : List UInt8 := dkwX3_createECCBlock_5 ++ dktX3_createECCBlock_6
def dkwX3_createECCBlock_4 : List UInt8 := [27, 4, 100, 52, 42, 21, 5, 185, 0, 82, 2, 0, 130, 54, 6, 27, 4, 100, 54, 7, 21, 7]
abbrev dktX3_createECCBlock_4 : List UInt8 := dkwX3_createECCBlock_4 ++ dktX3_createECCBlock_5
def dkwX3_createECCBlock_3 : List UInt8 := [3, 85, 132, 5, 1, 167, 255, 241, 3, 54, 5, 21, 5, 42, 185, 0, 79, 1, 0, 162, 0, 152, 25, 4]
abbrev dktX3_createECCBlock_3 : List UInt8 := dkwX3_createECCBlock_3 ++ dktX3_createECCBlock_4
def dkwX3_createECCBlock_2 : List UInt8 := [178, 0, 75, 28, 50, 78, 27, 188, 5, 58, 4, 3, 54, 5, 21, 5, 27, 162, 0, 15, 25, 4, 21, 5]
abbrev dktX3_createECCBlock_2 : List UInt8 := dkwX3_createECCBlock_2 ++ dktX3_createECCBlock_3
def dkwX3_createECCBlock_1 : List UInt8 := [167, 0, 9, 132, 3, 1, 167, 255, 231, 28, 156, 0, 13, 187, 0, 12, 89, 18, 73, 183, 0, 16, 191]
abbrev dktX3_createECCBlock_1 : List UInt8 := dkwX3_createECCBlock_1 ++ dktX3_createECCBlock_2
def dkwX3_createECCBlock_0 : List UInt8 := [2, 61, 3, 62, 29, 178, 0, 69, 190, 162, 0, 23, 178, 0, 69, 29, 46, 27, 160, 0, 8, 29, 61]
abbrev dktX3_createECCBlock_0 : List UInt8 := dkwX3_createECCBlock_0 ++ dktX3_createECCBlock_1
theorem dksX3_createECCBlock_0 : cX3_createECCBlock.data.toList.drop 0 = dktX3_createECCBlock_0 := by decide +kernel
theorem dksX3_createECCBlock_1 : cX3_createECCBlock.data.toList.drop 23 = dktX3_createECCBlock_1 := dk_seg dksX3_createECCBlock_0 23 rfl rfl
theorem dksX3_createECCBlock_2 : cX3_createECCBlock.data.toList.drop 46 = dktX3_createECCBlock_2 := dk_seg dksX3_createECCBlock_1 23 rfl rfl
theorem dksX3_createECCBlock_3 : cX3_createECCBlock.data.toList.drop 70 = dktX3_createECCBlock_3 := dk_seg dksX3_createECCBlock_2 24 rfl rfl
theorem dksX3_createECCBlock_4 : cX3_createECCBlock.data.toList.drop 94 = dktX3_createECCBlock_4 := dk_seg dksX3_createECCBlock_3 24 rfl rfl
theorem dksX3_createECCBlock_5 : cX3_createECCBlock.data.toList.drop 116 = dktX3_createECCBlock_5 := dk_seg dksX3_createECCBlock_4 22 rfl rfl
theorem dksX3_createECCBlock_6 : cX3_createECCBlock.data.toList.drop 140 = dktX3_createECCBlock_6 := dk_seg dksX3_createECCBlock_5 24 rfl rfl
theorem dksX3_createECCBlock_7 : cX3_createECCBlock.data.toList.drop 164 = dktX3_createECCBlock_7 := dk_seg dksX3_createECCBlock_6 24 rfl rfl
theorem dksX3_createECCBlock_8 : cX3_createECCBlock.data.toList.drop 186 = dktX3_createECCBlock_8 := dk_seg dksX3_createECCBlock_7 22 rfl rfl
theorem dksX3_createECCBlock_9 : cX3_createECCBlock.data.toList.drop 209 = dktX3_createECCBlock_9 := dk_seg dksX3_createECCBlock_8 23 rfl rfl
theorem dksX3_createECCBlock_10 : cX3_createECCBlock.data.toList.drop 233 = dktX3_createECCBlock_10 := dk_seg dksX3_createECCBlock_9 24 rfl rfl
theorem dksX3_createECCBlock_11 : cX3_createECCBlock.data.toList.drop 257 = dktX3_createECCBlock_11 := dk_seg dksX3_createECCBlock_10 24 rfl rfl
theorem dX3_createECCBlock_0 : decode cX3_createECCBlock 0 = .ok (.iconst (-1), 1) := dk_2 (dk_at dksX3_createECCBlock_0 0 rfl rfl)
theorem dX3_createECCBlock_1 : decode cX3_createECCBlock 1 = .ok (.istore_n 2, 1) := dk_61 (dk_at dksX3_createECCBlock_0 1 rfl rfl)
theorem dX3_createECCBlock_2 : decode cX3_createECCBlock 2 = .ok (.iconst 0, 1) := dk_3 (dk_at dksX3_createECCBlock_0 2 rfl rfl)
theorem dX3_createECCBlock_3 : decode cX3_createECCBlock 3 = .ok (.istore_n 3, 1) := dk_62 (dk_at dksX3_createECCBlock_0 3 rfl rfl)
theorem dX3_createECCBlock_4 : decode cX3_createECCBlock 4 = .ok (.iload_n 3, 1) := dk_29 (dk_at dksX3_createECCBlock_0 4 rfl rfl)
theorem dX3_createECCBlock_5 : decode cX3_createECCBlock 5 = .ok (.getstatic 69, 3) := dk_178 0 69 (dk_at dksX3_createECCBlock_0 5 rfl rfl)
theorem dX3_createECCBlock_8 : decode cX3_createECCBlock 8 = .ok (.arraylength, 1) := dk_190 (dk_at dksX3_createECCBlock_0 8 rfl rfl)
theorem dX3_createECCBlock_9 : decode cX3_createECCBlock 9 = .ok (.if_icmp .ge 23, 3) := dk_162 0 23 (dk_at dksX3_createECCBlock_0 9 rfl rfl)
theorem dX3_createECCBlock_12 : decode cX3_createECCBlock 12 = .ok (.getstatic 69, 3) := dk_178 0 69 (dk_at dksX3_createECCBlock_0 12 rfl rfl)
theorem dX3_createECCBlock_15 : decode cX3_createECCBlock 15 = .ok (.iload_n 3, 1) := dk_29 (dk_at dksX3_createECCBlock_0 15 rfl rfl)
theorem dX3_createECCBlock_16 : decode cX3_createECCBlock 16 = .ok (.iaload, 1) := dk_46 (dk_at dksX3_createECCBlock_0 16 rfl rfl)
theorem dX3_createECCBlock_17 : decode cX3_createECCBlock 17 = .ok (.iload_n 1, 1) := dk_27 (dk_at dksX3_createECCBlock_0 17 rfl rfl)
theorem dX3_createECCBlock_18 : decode cX3_createECCBlock 18 = .ok (.if_icmp .ne 8, 3) := dk_160 0 8 (dk_at dksX3_createECCBlock_0 18 rfl rfl)
theorem dX3_createECCBlock_21 : decode cX3_createECCBlock 21 = .ok (.iload_n 3, 1) := dk_29 (dk_at dksX3_createECCBlock_0 21 rfl rfl)
theorem dX3_createECCBlock_22 : decode cX3_createECCBlock 22 = .ok (.istore_n 2, 1) := dk_61 (dk_at dksX3_createECCBlock_0 22 rfl rfl)
theorem dX3_createECCBlock_23 : decode cX3_createECCBlock 23 = .ok (.goto 9, 3) := dk_167 0 9 (dk_at dksX3_createECCBlock_1 0 rfl rfl)
theorem dX3_createECCBlock_26 : decode cX3_createECCBlock 26 = .ok (.iinc 3 1, 3) := dk_132 3 1 (dk_at dksX3_createECCBlock_1 3 rfl rfl)
theorem dX3_createECCBlock_29 : decode cX3_createECCBlock 29 = .ok (.goto (-25), 3) := dk_167 255 231 (dk_at dksX3_createECCBlock_1 6 rfl rfl)
theorem dX3_createECCBlock_32 : decode cX3_createECCBlock 32 = .ok (.iload_n 2, 1) := dk_28 (dk_at dksX3_createECCBlock_1 9 rfl rfl)
theorem dX3_createECCBlock_33 : decode cX3_createECCBlock 33 = .ok (.ifCond .ge 13, 3) := dk_156 0 13 (dk_at dksX3_createECCBlock_1 10 rfl rfl)
theorem dX3_createECCBlock_36 : decode cX3_createECCBlock 36 = .ok (.new 12, 3) := dk_187 0 12 (dk_at dksX3_createECCBlock_1 13 rfl rfl)
theorem dX3_createECCBlock_39 : decode cX3_createECCBlock 39 = .ok (.dup, 1) := dk_89 (dk_at dksX3_createECCBlock_1 16 rfl rfl)
theorem dX3_createECCBlock_40 : decode cX3_createECCBlock 40 = .ok (.ldc 73, 2) := dk_18 73 (dk_at dksX3_createECCBlock_1 17 rfl rfl)
theorem dX3_createECCBlock_42 : decode cX3_createECCBlock 42 = .ok (.invokespecial 16, 3) := dk_183 0 16 (dk_at dksX3_createECCBlock_1 19 rfl rfl)
theorem dX3_createECCBlock_45 : decode cX3_createECCBlock 45 = .ok (.athrow, 1) := dk_191 (dk_at dksX3_createECCBlock_1 22 rfl rfl)
theorem dX3_createECCBlock_46 : decode cX3_createECCBlock 46 = .ok (.getstatic 75, 3) := dk_178 0 75 (dk_at dksX3_createECCBlock_2 0 rfl rfl)
theorem dX3_createECCBlock_49 : decode cX3_createECCBlock 49 = .ok (.iload_n 2, 1) := dk_28 (dk_at dksX3_createECCBlock_2 3 rfl rfl)
theorem dX3_createECCBlock_50 : decode cX3_createECCBlock 50 = .ok (.aaload, 1) := dk_50 (dk_at dksX3_createECCBlock_2 4 rfl rfl)
theorem dX3_createECCBlock_51 : decode cX3_createECCBlock 51 = .ok (.astore_n 3, 1) := dk_78 (dk_at dksX3_createECCBlock_2 5 rfl rfl)
theorem dX3_createECCBlock_52 : decode cX3_createECCBlock 52 = .ok (.iload_n 1, 1) := dk_27 (dk_at dksX3_createECCBlock_2 6 rfl rfl)
theorem dX3_createECCBlock_53 : decode cX3_createECCBlock 53 = .ok (.newarray .char, 2) := dk_188_5 (dk_at dksX3_createECCBlock_2 7 rfl rfl)
theorem dX3_createECCBlock_55 : decode cX3_createECCBlock 55 = .ok (.astore 4, 2) := dk_58 4 (dk_at dksX3_createECCBlock_2 9 rfl rfl)
theorem dX3_createECCBlock_57 : decode cX3_createECCBlock 57 = .ok (.iconst 0, 1) := dk_3 (dk_at dksX3_createECCBlock_2 11 rfl rfl)
theorem dX3_createECCBlock_58 : decode cX3_createECCBlock 58 = .ok (.istore 5, 2) := dk_54 5 (dk_at dksX3_createECCBlock_2 12 rfl rfl)
theorem dX3_createECCBlock_60 : decode cX3_createECCBlock 60 = .ok (.iload 5, 2) := dk_21 5 (dk_at dksX3_createECCBlock_2 14 rfl rfl)
theorem dX3_createECCBlock_62 : decode cX3_createECCBlock 62 = .ok (.iload_n 1, 1) := dk_27 (dk_at dksX3_createECCBlock_2 16 rfl rfl)
theorem dX3_createECCBlock_63 : decode cX3_createECCBlock 63 = .ok (.if_icmp .ge 15, 3) := dk_162 0 15 (dk_at dksX3_createECCBlock_2 17 rfl rfl)
theorem dX3_createECCBlock_66 : decode cX3_createECCBlock 66 = .ok (.aload 4, 2) := dk_25 4 (dk_at dksX3_createECCBlock_2 20 rfl rfl)
theorem dX3_createECCBlock_68 : decode cX3_createECCBlock 68 = .ok (.iload 5, 2) := dk_21 5 (dk_at dksX3_createECCBlock_2 22 rfl rfl)
theorem dX3_createECCBlock_70 : decode cX3_createECCBlock 70 = .ok (.iconst 0, 1) := dk_3 (dk_at dksX3_createECCBlock_3 0 rfl rfl)
theorem dX3_createECCBlock_71 : decode cX3_createECCBlock 71 = .ok (.castore, 1) := dk_85 (dk_at dksX3_createECCBlock_3 1 rfl rfl)
theorem dX3_createECCBlock_72 : decode cX3_createECCBlock 72 = .ok (.iinc 5 1, 3) := dk_132 5 1 (dk_at dksX3_createECCBlock_3 2 rfl rfl)
theorem dX3_createECCBlock_75 : decode cX3_createECCBlock 75 = .ok (.goto (-15), 3) := dk_167 255 241 (dk_at dksX3_createECCBlock_3 5 rfl rfl)
theorem dX3_createECCBlock_78 : decode cX3_createECCBlock 78 = .ok (.iconst 0, 1) := dk_3 (dk_at dksX3_createECCBlock_3 8 rfl rfl)
theorem dX3_createECCBlock_79 : decode cX3_createECCBlock 79 = .ok (.istore 5, 2) := dk_54 5 (dk_at dksX3_createECCBlock_3 9 rfl rfl)
theorem dX3_createECCBlock_81 : decode cX3_createECCBlock 81 = .ok (.iload 5, 2) := dk_21 5 (dk_at dksX3_createECCBlock_3 11 rfl rfl)
theorem dX3_createECCBlock_83 : decode cX3_createECCBlock 83 = .ok (.aload_n 0, 1) := dk_42 (dk_at dksX3_createECCBlock_3 13 rfl rfl)
theorem dX3_createECCBlock_84 : decode cX3_createECCBlock 84 = .ok (.invokeinterface 79 1, 5) := by decide +kernel
theorem dX3_createECCBlock_89 : decode cX3_createECCBlock 89 = .ok (.if_icmp .ge 152, 3) := dk_162 0 152 (dk_at dksX3_createECCBlock_3 19 rfl rfl)
theorem dX3_createECCBlock_92 : decode cX3_createECCBlock 92 = .ok (.aload 4, 2) := dk_25 4 (dk_at dksX3_createECCBlock_3 22 rfl rfl)
theorem dX3_createECCBlock_94 : decode cX3_createECCBlock 94 = .ok (.iload_n 1, 1) := dk_27 (dk_at dksX3_createECCBlock_4 0 rfl rfl)
theorem dX3_createECCBlock_95 : decode cX3_createECCBlock 95 = .ok (.iconst 1, 1) := dk_4 (dk_at dksX3_createECCBlock_4 1 rfl rfl)
theorem dX3_createECCBlock_96 : decode cX3_createECCBlock 96 = .ok (.isub, 1) := dk_100 (dk_at dksX3_createECCBlock_4 2 rfl rfl)
theorem dX3_createECCBlock_97 : decode cX3_createECCBlock 97 = .ok (.caload, 1) := dk_52 (dk_at dksX3_createECCBlock_4 3 rfl rfl)
theorem dX3_createECCBlock_98 : decode cX3_createECCBlock 98 = .ok (.aload_n 0, 1) := dk_42 (dk_at dksX3_createECCBlock_4 4 rfl rfl)
theorem dX3_createECCBlock_99 : decode cX3_createECCBlock 99 = .ok (.iload 5, 2) := dk_21 5 (dk_at dksX3_createECCBlock_4 5 rfl rfl)
theorem dX3_createECCBlock_101 : decode cX3_createECCBlock 101 = .ok (.invokeinterface 82 2, 5) := by decide +kernel
theorem dX3_createECCBlock_106 : decode cX3_createECCBlock 106 = .ok (.ixor, 1) := dk_130 (dk_at dksX3_createECCBlock_4 12 rfl rfl)
theorem dX3_createECCBlock_107 : decode cX3_createECCBlock 107 = .ok (.istore 6, 2) := dk_54 6 (dk_at dksX3_createECCBlock_4 13 rfl rfl)
theorem dX3_createECCBlock_109 : decode cX3_createECCBlock 109 = .ok (.iload_n 1, 1) := dk_27 (dk_at dksX3_createECCBlock_4 15 rfl rfl)
theorem dX3_createECCBlock_110 : decode cX3_createECCBlock 110 = .ok (.iconst 1, 1) := dk_4 (dk_at dksX3_createECCBlock_4 16 rfl rfl)
theorem dX3_createECCBlock_111 : decode cX3_createECCBlock 111 = .ok (.isub, 1) := dk_100 (dk_at dksX3_createECCBlock_4 17 rfl rfl)
theorem dX3_createECCBlock_112 : decode cX3_createECCBlock 112 = .ok (.istore 7, 2) := dk_54 7 (dk_at dksX3_createECCBlock_4 18 rfl rfl)
theorem dX3_createECCBlock_114 : decode cX3_createECCBlock 114 = .ok (.iload 7, 2) := dk_21 7 (dk_at dksX3_createECCBlock_4 20 rfl rfl)
theorem dX3_createECCBlock_116 : decode cX3_createECCBlock 116 = .ok (.ifCond .le 73, 3) := dk_158 0 73 (dk_at dksX3_createECCBlock_5 0 rfl rfl)
theorem dX3_createECCBlock_119 : decode cX3_createECCBlock 119 = .ok (.iload 6, 2) := dk_21 6 (dk_at dksX3_createECCBlock_5 3 rfl rfl)
theorem dX3_createECCBlock_121 : decode cX3_createECCBlock 121 = .ok (.ifCond .eq 50, 3) := dk_153 0 50 (dk_at dksX3_createECCBlock_5 5 rfl rfl)
theorem dX3_createECCBlock_124 : decode cX3_createECCBlock 124 = .ok (.aload_n 3, 1) := dk_45 (dk_at dksX3_createECCBlock_5 8 rfl rfl)
theorem dX3_createECCBlock_125 : decode cX3_createECCBlock 125 = .ok (.iload 7, 2) := dk_21 7 (dk_at dksX3_createECCBlock_5 9 rfl rfl)
theorem dX3_createECCBlock_127 : decode cX3_createECCBlock 127 = .ok (.iaload, 1) := dk_46 (dk_at dksX3_createECCBlock_5 11 rfl rfl)
theorem dX3_createECCBlock_128 : decode cX3_createECCBlock 128 = .ok (.ifCond .eq 43, 3) := dk_153 0 43 (dk_at dksX3_createECCBlock_5 12 rfl rfl)
theorem dX3_createECCBlock_131 : decode cX3_createECCBlock 131 = .ok (.aload 4, 2) := dk_25 4 (dk_at dksX3_createECCBlock_5 15 rfl rfl)
theorem dX3_createECCBlock_133 : decode cX3_createECCBlock 133 = .ok (.iload 7, 2) := dk_21 7 (dk_at dksX3_createECCBlock_5 17 rfl rfl)
theorem dX3_createECCBlock_135 : decode cX3_createECCBlock 135 = .ok (.aload 4, 2) := dk_25 4 (dk_at dksX3_createECCBlock_5 19 rfl rfl)
theorem dX3_createECCBlock_137 : decode cX3_createECCBlock 137 = .ok (.iload 7, 2) := dk_21 7 (dk_at dksX3_createECCBlock_5 21 rfl rfl)
theorem dX3_createECCBlock_139 : decode cX3_createECCBlock 139 = .ok (.iconst 1, 1) := dk_4 (dk_at dksX3_createECCBlock_5 23 rfl rfl)
theorem dX3_createECCBlock_140 : decode cX3_createECCBlock 140 = .ok (.isub, 1) := dk_100 (dk_at dksX3_createECCBlock_6 0 rfl rfl)
theorem dX3_createECCBlock_141 : decode cX3_createECCBlock 141 = .ok (.caload, 1) := dk_52 (dk_at dksX3_createECCBlock_6 1 rfl rfl)
theorem dX3_createECCBlock_142 : decode cX3_createECCBlock 142 = .ok (.getstatic 83, 3) := dk_178 0 83 (dk_at dksX3_createECCBlock_6 2 rfl rfl)
theorem dX3_createECCBlock_145 : decode cX3_createECCBlock 145 = .ok (.getstatic 86, 3) := dk_178 0 86 (dk_at dksX3_createECCBlock_6 5 rfl rfl)
theorem dX3_createECCBlock_148 : decode cX3_createECCBlock 148 = .ok (.iload 6, 2) := dk_21 6 (dk_at dksX3_createECCBlock_6 8 rfl rfl)
theorem dX3_createECCBlock_150 : decode cX3_createECCBlock 150 = .ok (.iaload, 1) := dk_46 (dk_at dksX3_createECCBlock_6 10 rfl rfl)
theorem dX3_createECCBlock_151 : decode cX3_createECCBlock 151 = .ok (.getstatic 86, 3) := dk_178 0 86 (dk_at dksX3_createECCBlock_6 11 rfl rfl)
theorem dX3_createECCBlock_154 : decode cX3_createECCBlock 154 = .ok (.aload_n 3, 1) := dk_45 (dk_at dksX3_createECCBlock_6 14 rfl rfl)
theorem dX3_createECCBlock_155 : decode cX3_createECCBlock 155 = .ok (.iload 7, 2) := dk_21 7 (dk_at dksX3_createECCBlock_6 15 rfl rfl)
theorem dX3_createECCBlock_157 : decode cX3_createECCBlock 157 = .ok (.iaload, 1) := dk_46 (dk_at dksX3_createECCBlock_6 17 rfl rfl)
theorem dX3_createECCBlock_158 : decode cX3_createECCBlock 158 = .ok (.iaload, 1) := dk_46 (dk_at dksX3_createECCBlock_6 18 rfl rfl)
theorem dX3_createECCBlock_159 : decode cX3_createECCBlock 159 = .ok (.iadd, 1) := dk_96 (dk_at dksX3_createECCBlock_6 19 rfl rfl)
theorem dX3_createECCBlock_160 : decode cX3_createECCBlock 160 = .ok (.sipush 255, 3) := dk_17 0 255 (dk_at dksX3_createECCBlock_6 20 rfl rfl)
theorem dX3_createECCBlock_163 : decode cX3_createECCBlock 163 = .ok (.irem, 1) := dk_112 (dk_at dksX3_createECCBlock_6 23 rfl rfl)
theorem dX3_createECCBlock_164 : decode cX3_createECCBlock 164 = .ok (.iaload, 1) := dk_46 (dk_at dksX3_createECCBlock_7 0 rfl rfl)
theorem dX3_createECCBlock_165 : decode cX3_createECCBlock 165 = .ok (.ixor, 1) := dk_130 (dk_at dksX3_createECCBlock_7 1 rfl rfl)
theorem dX3_createECCBlock_166 : decode cX3_createECCBlock 166 = .ok (.i2c, 1) := dk_146 (dk_at dksX3_createECCBlock_7 2 rfl rfl)
theorem dX3_createECCBlock_167 : decode cX3_createECCBlock 167 = .ok (.castore, 1) := dk_85 (dk_at dksX3_createECCBlock_7 3 rfl rfl)
theorem dX3_createECCBlock_168 : decode cX3_createECCBlock 168 = .ok (.goto 15, 3) := dk_167 0 15 (dk_at dksX3_createECCBlock_7 4 rfl rfl)
theorem dX3_createECCBlock_171 : decode cX3_createECCBlock 171 = .ok (.aload 4, 2) := dk_25 4 (dk_at dksX3_createECCBlock_7 7 rfl rfl)
theorem dX3_createECCBlock_173 : decode cX3_createECCBlock 173 = .ok (.iload 7, 2) := dk_21 7 (dk_at dksX3_createECCBlock_7 9 rfl rfl)
theorem dX3_createECCBlock_175 : decode cX3_createECCBlock 175 = .ok (.aload 4, 2) := dk_25 4 (dk_at dksX3_createECCBlock_7 11 rfl rfl)
theorem dX3_createECCBlock_177 : decode cX3_createECCBlock 177 = .ok (.iload 7, 2) := dk_21 7 (dk_at dksX3_createECCBlock_7 13 rfl rfl)
theorem dX3_createECCBlock_179 : decode cX3_createECCBlock 179 = .ok (.iconst 1, 1) := dk_4 (dk_at dksX3_createECCBlock_7 15 rfl rfl)
theorem dX3_createECCBlock_180 : decode cX3_createECCBlock 180 = .ok (.isub, 1) := dk_100 (dk_at dksX3_createECCBlock_7 16 rfl rfl)
theorem dX3_createECCBlock_181 : decode cX3_createECCBlock 181 = .ok (.caload, 1) := dk_52 (dk_at dksX3_createECCBlock_7 17 rfl rfl)
theorem dX3_createECCBlock_182 : decode cX3_createECCBlock 182 = .ok (.castore, 1) := dk_85 (dk_at dksX3_createECCBlock_7 18 rfl rfl)
theorem dX3_createECCBlock_183 : decode cX3_createECCBlock 183 = .ok (.iinc 7 (-1), 3) := dk_132 7 255 (dk_at dksX3_createECCBlock_7 19 rfl rfl)
theorem dX3_createECCBlock_186 : decode cX3_createECCBlock 186 = .ok (.goto (-72), 3) := dk_167 255 184 (dk_at dksX3_createECCBlock_8 0 rfl rfl)
theorem dX3_createECCBlock_189 : decode cX3_createECCBlock 189 = .ok (.iload 6, 2) := dk_21 6 (dk_at dksX3_createECCBlock_8 3 rfl rfl)
theorem dX3_createECCBlock_191 : decode cX3_createECCBlock 191 = .ok (.ifCond .eq 39, 3) := dk_153 0 39 (dk_at dksX3_createECCBlock_8 5 rfl rfl)
theorem dX3_createECCBlock_194 : decode cX3_createECCBlock 194 = .ok (.aload_n 3, 1) := dk_45 (dk_at dksX3_createECCBlock_8 8 rfl rfl)
theorem dX3_createECCBlock_195 : decode cX3_createECCBlock 195 = .ok (.iconst 0, 1) := dk_3 (dk_at dksX3_createECCBlock_8 9 rfl rfl)
theorem dX3_createECCBlock_196 : decode cX3_createECCBlock 196 = .ok (.iaload, 1) := dk_46 (dk_at dksX3_createECCBlock_8 10 rfl rfl)
theorem dX3_createECCBlock_197 : decode cX3_createECCBlock 197 = .ok (.ifCond .eq 33, 3) := dk_153 0 33 (dk_at dksX3_createECCBlock_8 11 rfl rfl)
theorem dX3_createECCBlock_200 : decode cX3_createECCBlock 200 = .ok (.aload 4, 2) := dk_25 4 (dk_at dksX3_createECCBlock_8 14 rfl rfl)
theorem dX3_createECCBlock_202 : decode cX3_createECCBlock 202 = .ok (.iconst 0, 1) := dk_3 (dk_at dksX3_createECCBlock_8 16 rfl rfl)
theorem dX3_createECCBlock_203 : decode cX3_createECCBlock 203 = .ok (.getstatic 83, 3) := dk_178 0 83 (dk_at dksX3_createECCBlock_8 17 rfl rfl)
theorem dX3_createECCBlock_206 : decode cX3_createECCBlock 206 = .ok (.getstatic 86, 3) := dk_178 0 86 (dk_at dksX3_createECCBlock_8 20 rfl rfl)
theorem dX3_createECCBlock_209 : decode cX3_createECCBlock 209 = .ok (.iload 6, 2) := dk_21 6 (dk_at dksX3_createECCBlock_9 0 rfl rfl)
theorem dX3_createECCBlock_211 : decode cX3_createECCBlock 211 = .ok (.iaload, 1) := dk_46 (dk_at dksX3_createECCBlock_9 2 rfl rfl)
theorem dX3_createECCBlock_212 : decode cX3_createECCBlock 212 = .ok (.getstatic 86, 3) := dk_178 0 86 (dk_at dksX3_createECCBlock_9 3 rfl rfl)
theorem dX3_createECCBlock_215 : decode cX3_createECCBlock 215 = .ok (.aload_n 3, 1) := dk_45 (dk_at dksX3_createECCBlock_9 6 rfl rfl)
theorem dX3_createECCBlock_216 : decode cX3_createECCBlock 216 = .ok (.iconst 0, 1) := dk_3 (dk_at dksX3_createECCBlock_9 7 rfl rfl)
theorem dX3_createECCBlock_217 : decode cX3_createECCBlock 217 = .ok (.iaload, 1) := dk_46 (dk_at dksX3_createECCBlock_9 8 rfl rfl)
theorem dX3_createECCBlock_218 : decode cX3_createECCBlock 218 = .ok (.iaload, 1) := dk_46 (dk_at dksX3_createECCBlock_9 9 rfl rfl)
theorem dX3_createECCBlock_219 : decode cX3_createECCBlock 219 = .ok (.iadd, 1) := dk_96 (dk_at dksX3_createECCBlock_9 10 rfl rfl)
theorem dX3_createECCBlock_220 : decode cX3_createECCBlock 220 = .ok (.sipush 255, 3) := dk_17 0 255 (dk_at dksX3_createECCBlock_9 11 rfl rfl)
theorem dX3_createECCBlock_223 : decode cX3_createECCBlock 223 = .ok (.irem, 1) := dk_112 (dk_at dksX3_createECCBlock_9 14 rfl rfl)
theorem dX3_createECCBlock_224 : decode cX3_createECCBlock 224 = .ok (.iaload, 1) := dk_46 (dk_at dksX3_createECCBlock_9 15 rfl rfl)
theorem dX3_createECCBlock_225 : decode cX3_createECCBlock 225 = .ok (.i2c, 1) := dk_146 (dk_at dksX3_createECCBlock_9 16 rfl rfl)
theorem dX3_createECCBlock_226 : decode cX3_createECCBlock 226 = .ok (.castore, 1) := dk_85 (dk_at dksX3_createECCBlock_9 17 rfl rfl)
theorem dX3_createECCBlock_227 : decode cX3_createECCBlock 227 = .ok (.goto 8, 3) := dk_167 0 8 (dk_at dksX3_createECCBlock_9 18 rfl rfl)
theorem dX3_createECCBlock_230 : decode cX3_createECCBlock 230 = .ok (.aload 4, 2) := dk_25 4 (dk_at dksX3_createECCBlock_9 21 rfl rfl)
theorem dX3_createECCBlock_232 : decode cX3_createECCBlock 232 = .ok (.iconst 0, 1) := dk_3 (dk_at dksX3_createECCBlock_9 23 rfl rfl)
theorem dX3_createECCBlock_233 : decode cX3_createECCBlock 233 = .ok (.iconst 0, 1) := dk_3 (dk_at dksX3_createECCBlock_10 0 rfl rfl)
theorem dX3_createECCBlock_234 : decode cX3_createECCBlock 234 = .ok (.castore, 1) := dk_85 (dk_at dksX3_createECCBlock_10 1 rfl rfl)
theorem dX3_createECCBlock_235 : decode cX3_createECCBlock 235 = .ok (.iinc 5 1, 3) := dk_132 5 1 (dk_at dksX3_createECCBlock_10 2 rfl rfl)
theorem dX3_createECCBlock_238 : decode cX3_createECCBlock 238 = .ok (.goto (-157), 3) := dk_167 255 99 (dk_at dksX3_createECCBlock_10 5 rfl rfl)
theorem dX3_createECCBlock_241 : decode cX3_createECCBlock 241 = .ok (.iload_n 1, 1) := dk_27 (dk_at dksX3_createECCBlock_10 8 rfl rfl)
theorem dX3_createECCBlock_242 : decode cX3_createECCBlock 242 = .ok (.newarray .char, 2) := dk_188_5 (dk_at dksX3_createECCBlock_10 9 rfl rfl)
theorem dX3_createECCBlock_244 : decode cX3_createECCBlock 244 = .ok (.astore 5, 2) := dk_58 5 (dk_at dksX3_createECCBlock_10 11 rfl rfl)
theorem dX3_createECCBlock_246 : decode cX3_createECCBlock 246 = .ok (.iconst 0, 1) := dk_3 (dk_at dksX3_createECCBlock_10 13 rfl rfl)
theorem dX3_createECCBlock_247 : decode cX3_createECCBlock 247 = .ok (.istore 6, 2) := dk_54 6 (dk_at dksX3_createECCBlock_10 14 rfl rfl)
theorem dX3_createECCBlock_249 : decode cX3_createECCBlock 249 = .ok (.iload 6, 2) := dk_21 6 (dk_at dksX3_createECCBlock_10 16 rfl rfl)
theorem dX3_createECCBlock_251 : decode cX3_createECCBlock 251 = .ok (.iload_n 1, 1) := dk_27 (dk_at dksX3_createECCBlock_10 18 rfl rfl)
theorem dX3_createECCBlock_252 : decode cX3_createECCBlock 252 = .ok (.if_icmp .ge 23, 3) := dk_162 0 23 (dk_at dksX3_createECCBlock_10 19 rfl rfl)
theorem dX3_createECCBlock_255 : decode cX3_createECCBlock 255 = .ok (.aload 5, 2) := dk_25 5 (dk_at dksX3_createECCBlock_10 22 rfl rfl)
theorem dX3_createECCBlock_257 : decode cX3_createECCBlock 257 = .ok (.iload 6, 2) := dk_21 6 (dk_at dksX3_createECCBlock_11 0 rfl rfl)
theorem dX3_createECCBlock_259 : decode cX3_createECCBlock 259 = .ok (.aload 4, 2) := dk_25 4 (dk_at dksX3_createECCBlock_11 2 rfl rfl)
theorem dX3_createECCBlock_261 : decode cX3_createECCBlock 261 = .ok (.iload_n 1, 1) := dk_27 (dk_at dksX3_createECCBlock_11 4 rfl rfl)
theorem dX3_createECCBlock_262 : decode cX3_createECCBlock 262 = .ok (.iload 6, 2) := dk_21 6 (dk_at dksX3_createECCBlock_11 5 rfl rfl)
theorem dX3_createECCBlock_264 : decode cX3_createECCBlock 264 = .ok (.isub, 1) := dk_100 (dk_at dksX3_createECCBlock_11 7 rfl rfl)
theorem dX3_createECCBlock_265 : decode cX3_createECCBlock 265 = .ok (.iconst 1, 1) := dk_4 (dk_at dksX3_createECCBlock_11 8 rfl rfl)
theorem dX3_createECCBlock_266 : decode cX3_createECCBlock 266 = .ok (.isub, 1) := dk_100 (dk_at dksX3_createECCBlock_11 9 rfl rfl)
theorem dX3_createECCBlock_267 : decode cX3_createECCBlock 267 = .ok (.caload, 1) := dk_52 (dk_at dksX3_createECCBlock_11 10 rfl rfl)
theorem dX3_createECCBlock_268 : decode cX3_createECCBlock 268 = .ok (.castore, 1) := dk_85 (dk_at dksX3_createECCBlock_11 11 rfl rfl)
theorem dX3_createECCBlock_269 : decode cX3_createECCBlock 269 = .ok (.iinc 6 1, 3) := dk_132 6 1 (dk_at dksX3_createECCBlock_11 12 rfl rfl)
theorem dX3_createECCBlock_272 : decode cX3_createECCBlock 272 = .ok (.goto (-23), 3) := dk_167 255 233 (dk_at dksX3_createECCBlock_11 15 rfl rfl)
theorem dX3_createECCBlock_275 : decode cX3_createECCBlock 275 = .ok (.aload 5, 2) := dk_25 5 (dk_at dksX3_createECCBlock_11 18 rfl rfl)
theorem dX3_createECCBlock_277 : decode cX3_createECCBlock 277 = .ok (.invokestatic 89, 3) := dk_184 0 89 (dk_at dksX3_createECCBlock_11 20 rfl rfl)
theorem dX3_createECCBlock_280 : decode cX3_createECCBlock 280 = .ok (.areturn, 1) := dk_176 (dk_at dksX3_createECCBlock_11 23 rfl rfl)
theorem q8 : (Jvm.Cond.initialized "ErrorCorrection") ∈ lw_all := lw_g (lw_at lw_m1 7 rfl) rfl
theorem q166 : (Jvm.Cond.static ({ cls := "ErrorCorrection", name := "encodeECC200", desc := "(Ljava/lang/String;LSymbolInfo;)Ljava/lang/String;" } : Jvm.MethodName)) ∈ lw_all := lw_g (lw_at lw_m1 165 rfl) rfl
theorem q167 : (Jvm.Cond.code ({ cls := "ErrorCorrection", name := "encodeECC200", desc := "(Ljava/lang/String;LSymbolInfo;)Ljava/lang/String;" } : Jvm.MethodName) prog_1_method_1_code (11 : Nat) (Option.some (Jvm.ClassFile.FieldType.object "java/lang/String"))) ∈ lw_all := lw_g (lw_at lw_m1 166 rfl) rfl
theorem q168 : (Jvm.Cond.methodLink "ErrorCorrection" (1 : Nat) ({ cls := "java/lang/String", name := "length", desc := "()I" } : Jvm.MethodName)) ∈ lw_all := lw_g (lw_at lw_m1 167 rfl) rfl
theorem q176 : (Jvm.Cond.methodLink "ErrorCorrection" (7 : Nat) ({ cls := "SymbolInfo", name := "getDataCapacity", desc := "()I" } : Jvm.MethodName)) ∈ lw_all := lw_g (lw_at lw_m1 175 rfl) rfl
theorem q180 : (Jvm.Cond.classLink "ErrorCorrection" (12 : Nat) "java/lang/IllegalArgumentException") ∈ lw_all := lw_g (lw_at lw_m1 179 rfl) rfl
theorem q219 : (Jvm.Cond.stringRef "ErrorCorrection" (14 : Nat) "The number of codewords does not match the selected symbol") ∈ lw_tbl := lw_at lw_m1 218 rfl
theorem q220 : (Jvm.Cond.methodLink "ErrorCorrection" (16 : Nat) ({ cls := "java/lang/IllegalArgumentException", name := "<init>", desc := "(Ljava/lang/String;)V" } : Jvm.MethodName)) ∈ lw_all := lw_g (lw_at lw_m1 219 rfl) rfl
theorem q245 : (Jvm.Cond.classLink "ErrorCorrection" (20 : Nat) "java/lang/StringBuilder") ∈ lw_all := lw_g (lw_at lw_m2 4 rfl) rfl
theorem q247 : (Jvm.Cond.methodLink "ErrorCorrection" (22 : Nat) ({ cls := "SymbolInfo", name := "getErrorCodewords", desc := "()I" } : Jvm.MethodName)) ∈ lw_all := lw_g (lw_at lw_m2 6 rfl) rfl
theorem q251 : (Jvm.Cond.methodLink "ErrorCorrection" (25 : Nat) ({ cls := "java/lang/StringBuilder", name := "<init>", desc := "(I)V" } : Jvm.MethodName)) ∈ lw_all := lw_g (lw_at lw_m2 10 rfl) rfl
theorem q274 : (Jvm.Cond.methodLink "ErrorCorrection" (28 : Nat) ({ cls := "java/lang/StringBuilder", name := "append", desc := "(Ljava/lang/String;)Ljava/lang/StringBuilder;" } : Jvm.MethodName)) ∈ lw_all := lw_g (lw_at lw_m2 33 rfl) rfl
theorem q363 : (Jvm.Cond.methodLink "ErrorCorrection" (32 : Nat) ({ cls := "SymbolInfo", name := "getInterleavedBlockCount", desc := "()I" } : Jvm.MethodName)) ∈ lw_all := lw_g (lw_at lw_m2 122 rfl) rfl
theorem q367 : (Jvm.Cond.methodLink "ErrorCorrection" (35 : Nat) ({ cls := "ErrorCorrection", name := "createECCBlock", desc := "(Ljava/lang/CharSequence;I)Ljava/lang/String;" } : Jvm.MethodName)) ∈ lw_all := lw_g (lw_at lw_m2 126 rfl) rfl
theorem q368 : (Jvm.Cond.static ({ cls := "ErrorCorrection", name := "createECCBlock", desc := "(Ljava/lang/CharSequence;I)Ljava/lang/String;" } : Jvm.MethodName)) ∈ lw_all := lw_g (lw_at lw_m2 127 rfl) rfl
theorem q369 : (Jvm.Cond.code ({ cls := "ErrorCorrection", name := "createECCBlock", desc := "(Ljava/lang/CharSequence;I)Ljava/lang/String;" } : Jvm.MethodName) prog_1_method_2_code (8 : Nat) (Option.some (Jvm.ClassFile.FieldType.object "java/lang/String"))) ∈ lw_all := lw_g (lw_at lw_m2 128 rfl) rfl
theorem q370 : (Jvm.Cond.fieldLink "ErrorCorrection" (69 : Nat) "ErrorCorrection" "FACTOR_SETS" "[I") ∈ lw_all := lw_g (lw_at lw_m2 129 rfl) rfl
theorem q371 : (Jvm.Cond.laysStatic "ErrorCorrection" "FACTOR_SETS" "[I") ∈ lw_tbl := lw_at lw_m2 130 rfl
theorem q372 : (Jvm.Cond.stringRef "ErrorCorrection" (73 : Nat) "left out") ∈ lw_tbl := lw_at lw_m2 131 rfl
theorem q373 : (Jvm.Cond.fieldLink "ErrorCorrection" (75 : Nat) "ErrorCorrection" "FACTORS" "[[I") ∈ lw_all := lw_g (lw_at lw_m2 132 rfl) rfl
theorem q374 : (Jvm.Cond.laysStatic "ErrorCorrection" "FACTORS" "[[I") ∈ lw_tbl := lw_at lw_m2 133 rfl
theorem q375 : (Jvm.Cond.interfaceEntry "ErrorCorrection" (79 : Nat)) ∈ lw_tbl := lw_at lw_m2 134 rfl
theorem q376 : (Jvm.Cond.methodLink "ErrorCorrection" (79 : Nat) ({ cls := "java/lang/CharSequence", name := "length", desc := "()I" } : Jvm.MethodName)) ∈ lw_all := lw_g (lw_at lw_m2 135 rfl) rfl
theorem q392 : (Jvm.Cond.interfaceEntry "ErrorCorrection" (82 : Nat)) ∈ lw_tbl := lw_at lw_m2 151 rfl
theorem q393 : (Jvm.Cond.methodLink "ErrorCorrection" (82 : Nat) ({ cls := "java/lang/CharSequence", name := "charAt", desc := "(I)C" } : Jvm.MethodName)) ∈ lw_all := lw_g (lw_at lw_m2 152 rfl) rfl
theorem q432 : (Jvm.Cond.fieldLink "ErrorCorrection" (83 : Nat) "ErrorCorrection" "ALOG" "[I") ∈ lw_all := lw_g (lw_at lw_m2 191 rfl) rfl
theorem q433 : (Jvm.Cond.laysStatic "ErrorCorrection" "ALOG" "[I") ∈ lw_tbl := lw_at lw_m2 192 rfl
theorem q434 : (Jvm.Cond.fieldLink "ErrorCorrection" (86 : Nat) "ErrorCorrection" "LOG" "[I") ∈ lw_all := lw_g (lw_at lw_m2 193 rfl) rfl
theorem q435 : (Jvm.Cond.laysStatic "ErrorCorrection" "LOG" "[I") ∈ lw_tbl := lw_at lw_m2 194 rfl
theorem q436 : (Jvm.Cond.methodLink "ErrorCorrection" (89 : Nat) ({ cls := "java/lang/String", name := "valueOf", desc := "([C)Ljava/lang/String;" } : Jvm.MethodName)) ∈ lw_all := lw_g (lw_at lw_m2 195 rfl) rfl
theorem q443 : (Jvm.Cond.methodLink "ErrorCorrection" (41 : Nat) ({ cls := "java/lang/StringBuilder", name := "capacity", desc := "()I" } : Jvm.MethodName)) ∈ lw_all := lw_g (lw_at lw_m2 202 rfl) rfl
theorem q450 : (Jvm.Cond.methodLink "ErrorCorrection" (44 : Nat) ({ cls := "java/lang/StringBuilder", name := "setLength", desc := "(I)V" } : Jvm.MethodName)) ∈ lw_all := lw_g (lw_at lw_m2 209 rfl) rfl
theorem q470 : (Jvm.Cond.methodLink "ErrorCorrection" (47 : Nat) ({ cls := "SymbolInfo", name := "getDataLengthForInterleavedBlock", desc := "(I)I" } : Jvm.MethodName)) ∈ lw_all := lw_g (lw_at lw_m2 229 rfl) rfl
theorem q474 : (Jvm.Cond.methodLink "ErrorCorrection" (51 : Nat) ({ cls := "SymbolInfo", name := "getErrorLengthForInterleavedBlock", desc := "(I)I" } : Jvm.MethodName)) ∈ lw_all := lw_g (lw_at lw_m2 233 rfl) rfl
theorem q478 : (Jvm.Cond.methodLink "ErrorCorrection" (54 : Nat) ({ cls := "java/lang/String", name := "charAt", desc := "(I)C" } : Jvm.MethodName)) ∈ lw_all := lw_g (lw_at lw_m2 237 rfl) rfl
theorem q479 : (Jvm.Cond.methodLink "ErrorCorrection" (58 : Nat) ({ cls := "java/lang/StringBuilder", name := "append", desc := "(C)Ljava/lang/StringBuilder;" } : Jvm.MethodName)) ∈ lw_all := lw_g (lw_at lw_m2 238 rfl) rfl
theorem q492 : (Jvm.Cond.methodLink "ErrorCorrection" (61 : Nat) ({ cls := "java/lang/StringBuilder", name := "toString", desc := "()Ljava/lang/String;" } : Jvm.MethodName)) ∈ lw_all := lw_g (lw_at lw_m3 11 rfl) rfl
theorem q523 : (Jvm.Cond.methodLink "ErrorCorrection" (65 : Nat) ({ cls := "java/lang/StringBuilder", name := "setCharAt", desc := "(IC)V" } : Jvm.MethodName)) ∈ lw_all := lw_g (lw_at lw_m3 42 rfl) rfl
theorem q1 : (Jvm.Cond.initialized "SquareParityLaw") ∈ lw_all := lw_g (lw_at lw_m1 0 rfl) rfl
theorem q20 : (Jvm.Cond.classLink "SquareParityLaw" (7 : Nat) "SquareParity") ∈ lw_all := lw_g (lw_at lw_m1 19 rfl) rfl
theorem q22 : (Jvm.Cond.methodLink "SquareParityLaw" (9 : Nat) ({ cls := "SquareParity", name := "<init>", desc := "()V" } : Jvm.MethodName)) ∈ lw_all := lw_g (lw_at lw_m1 21 rfl) rfl
theorem q38 : (Jvm.Cond.methodLink "SquareParityLaw" (13 : Nat) ({ cls := "SquareParity", name := "letter", desc := "(II)V" } : Jvm.MethodName)) ∈ lw_all := lw_g (lw_at lw_m1 37 rfl) rfl
theorem q43 : (Jvm.Cond.methodLink "SquareParityLaw" (18 : Nat) ({ cls := "SquareParity", name := "fill", desc := "(II)V" } : Jvm.MethodName)) ∈ lw_all := lw_g (lw_at lw_m1 42 rfl) rfl
theorem q47 : (Jvm.Cond.methodLink "SquareParityLaw" (22 : Nat) ({ cls := "SquareParity", name := "write", desc := "(I)I" } : Jvm.MethodName)) ∈ lw_all := lw_g (lw_at lw_m1 46 rfl) rfl
theorem q532 : (Jvm.Cond.methodLink "SquareParityLaw" (27 : Nat) ({ cls := "SquareParity", name := "whole", desc := "(I)I" } : Jvm.MethodName)) ∈ lw_all := lw_g (lw_at lw_m3 51 rfl) rfl
theorem q537 : (Jvm.Cond.classLink "SquareParityLaw" (10 : Nat) "SquareParityModel") ∈ lw_all := lw_g (lw_at lw_m3 56 rfl) rfl
theorem q539 : (Jvm.Cond.methodLink "SquareParityLaw" (12 : Nat) ({ cls := "SquareParityModel", name := "<init>", desc := "()V" } : Jvm.MethodName)) ∈ lw_all := lw_g (lw_at lw_m3 58 rfl) rfl
theorem q550 : (Jvm.Cond.methodLink "SquareParityLaw" (17 : Nat) ({ cls := "SquareParityModel", name := "letter", desc := "(II)V" } : Jvm.MethodName)) ∈ lw_all := lw_g (lw_at lw_m3 69 rfl) rfl
theorem q555 : (Jvm.Cond.methodLink "SquareParityLaw" (21 : Nat) ({ cls := "SquareParityModel", name := "fill", desc := "(II)V" } : Jvm.MethodName)) ∈ lw_all := lw_g (lw_at lw_m3 74 rfl) rfl
theorem q559 : (Jvm.Cond.methodLink "SquareParityLaw" (26 : Nat) ({ cls := "SquareParityModel", name := "write", desc := "(I)I" } : Jvm.MethodName)) ∈ lw_all := lw_g (lw_at lw_m3 78 rfl) rfl
theorem q575 : (Jvm.Cond.methodLink "SquareParityLaw" (30 : Nat) ({ cls := "SquareParityModel", name := "whole", desc := "(I)I" } : Jvm.MethodName)) ∈ lw_all := lw_g (lw_at lw_m3 94 rfl) rfl
theorem q308 : (Jvm.Cond.sameMethod "[B" "java/lang/Object" "clone" "()Ljava/lang/Object;") ∈ lw_all := lw_g (lw_at lw_m2 67 rfl) rfl
theorem q311 : (Jvm.Cond.selects "[B" ({ cls := "[B", name := "clone", desc := "()Ljava/lang/Object;" } : Jvm.MethodName) ({ cls := "java/lang/Object", name := "clone", desc := "()Ljava/lang/Object;" } : Jvm.MethodName)) ∈ lw_all := lw_g (lw_at lw_m2 70 rfl) rfl
theorem q312 : (Jvm.Cond.castable "[B" "java/lang/Cloneable") ∈ lw_tbl := lw_at lw_m2 71 rfl
theorem q377 : (Jvm.Cond.interfaceMethod "java/lang/CharSequence" "java/lang/CharSequence" "length" "()I") ∈ lw_tbl := lw_at lw_m2 136 rfl
theorem q378 : (Jvm.Cond.declares ({ cls := "java/lang/CharSequence", name := "length", desc := "()I" } : Jvm.MethodName)) ∈ lw_tbl := lw_at lw_m2 137 rfl
theorem q394 : (Jvm.Cond.interfaceMethod "java/lang/CharSequence" "java/lang/CharSequence" "charAt" "(I)C") ∈ lw_tbl := lw_at lw_m2 153 rfl
theorem q395 : (Jvm.Cond.declares ({ cls := "java/lang/CharSequence", name := "charAt", desc := "(I)C" } : Jvm.MethodName)) ∈ lw_tbl := lw_at lw_m2 154 rfl
theorem q18 : (Jvm.Cond.initialized "java/lang/System") ∈ lw_all := lw_g (lw_at lw_m1 17 rfl) rfl
theorem q318 : (Jvm.Cond.static ({ cls := "java/lang/System", name := "arraycopy", desc := "(Ljava/lang/Object;ILjava/lang/Object;II)V" } : Jvm.MethodName)) ∈ lw_all := lw_g (lw_at lw_m2 77 rfl) rfl
theorem q319 : (Jvm.Cond.native ({ cls := "java/lang/System", name := "arraycopy", desc := "(Ljava/lang/Object;ILjava/lang/Object;II)V" } : Jvm.MethodName)) ∈ lw_all := lw_g (lw_at lw_m2 78 rfl) rfl
theorem q36 : (Jvm.Cond.arrayClass Jvm.ClassFile.FieldType.char) ∈ lw_all := lw_g (lw_at lw_m1 35 rfl) rfl
theorem q37 : (Jvm.Cond.arrayClass Jvm.ClassFile.FieldType.byte) ∈ lw_all := lw_g (lw_at lw_m1 36 rfl) rfl
theorem q531 : (Jvm.Cond.arrayClass Jvm.ClassFile.FieldType.int) ∈ lw_all := lw_g (lw_at lw_m3 50 rfl) rfl
theorem q596 : (Jvm.Cond.arrayOver (Jvm.ClassFile.FieldType.array Jvm.ClassFile.FieldType.int)) ∈ lw_tbl := lw_at lw_m3 115 rfl
end
section
/-! ROWS OF OUR OWN over the kit's: ints by their numbers, one world of five classes, one bundle of constants, calls with their frame. -/
abbrev zCl : List vw_C := [(RX0, TX0, 2), (RX1, TX1, 2), (RJ0, TJ0, 4), (RJ8, TJ8, 4), (RX2, TX2, 8)]
/-- the array classes of int, char, byte -/
abbrev zTy (G : Nat → Nat) : List (ClassId × FieldType) := [(G 0, .int), (G 1, .char), (G 2, .byte)]
def zCSlen : MethodName := ⟨"java/lang/CharSequence", "length", "()I"⟩
def zCSat : MethodName := ⟨"java/lang/CharSequence", "charAt", "(I)C"⟩
/-- the constants of the start: G names their cells -/
def zC (G : Nat → Nat) (A : Nat → Prop) (U : State) (H : Heap) : Prop :=
  va_Z "java/lang/String" "COMPACT_STRINGS" "Z" (.int (nI 1)) A U H ∧ va_Zq "jdk/internal/util/Preconditions" "SIOOBE_FORMATTER" "Ljava/util/function/BiFunction;" A U H ∧
  va_Z "SquareParity" "ROOM" "[I" (.ref (G 3)) A U H ∧ va_T .int (G 3) 10 (fun j => .int (nI (zroom j))) A U H ∧
  va_Z "SquareParity" "CHECKS" "[I" (.ref (G 4)) A U H ∧ va_T .int (G 4) 10 (fun j => .int (nI (zch j))) A U H ∧
  va_Z "ErrorCorrection" "FACTOR_SETS" "[I" (.ref (G 5)) A U H ∧ va_T .int (G 5) 16 (fun j => .int (nI (zfs j))) A U H ∧
  va_Z "ErrorCorrection" "LOG" "[I" (.ref (G 7)) A U H ∧ va_T .int (G 7) 256 (fun j => .int (nI (zlog j))) A U H ∧
  va_Z "ErrorCorrection" "ALOG" "[I" (.ref (G 8)) A U H ∧ va_T .int (G 8) 255 (fun j => .int (nI (zalog j))) A U H ∧
  va_Z "ErrorCorrection" "FACTORS" "[[I" (.ref (G 6)) A U H ∧ va_T (.array .int) (G 6) 16 (fun j => .ref (G (20 + j))) A U H ∧
  (∀ r, r < 16 → va_T .int (G (20 + r)) (zfs r) (fun j => .int (nI (zfac r j))) A U H) ∧
  va_O "java/lang/String" (G 9) A U H ∧ va_OF "java/lang/String" "coder" "B" (.int (nI 0)) (G 9) A U H ∧ va_OF "java/lang/String" "value" "[B" (.ref (G 10)) (G 9) A U H ∧ va_T .byte (G 10) 0 (fun _ => .int (nI 0)) A U H
theorem zC.moved {G : Nat → Nat} {A : Nat → Prop} {u U : State} {H : Heap} (hvm : u.vm.Alike U.vm) (h : zC G A u H) : zC G A U H := by
  obtain ⟨h1, h2, h3, h4, h5, h6, h7, h8, h9, h10, h11, h12, h13, h14, h15, h16, h17, h18, h19⟩ := h
  exact ⟨h1.moved hvm, h2.moved hvm, h3.moved hvm, h4.moved hvm, h5.moved hvm, h6.moved hvm, h7.moved hvm, h8.moved hvm, h9.moved hvm, h10.moved hvm, h11.moved hvm, h12.moved hvm, h13.moved hvm, h14.moved hvm, fun r hr => (h15 r hr).moved hvm, h16.moved hvm, h17.moved hvm, h18.moved hvm, h19.moved hvm⟩
theorem zC.kept {G : Nat → Nat} {A : Nat → Prop} {U : State} {H H1 : Heap} (h : zC G A U H) (hq : ∀ a : Nat, a < H.size → ¬ A a → H1[a]? = H[a]?) : zC G A U H1 := by
  obtain ⟨h1, h2, h3, h4, h5, h6, h7, h8, h9, h10, h11, h12, h13, h14, h15, h16, h17, h18, h19⟩ := h
  exact ⟨h1.kept hq, h2.kept hq, h3.kept hq, h4.kept hq, h5.kept hq, h6.kept hq, h7.kept hq, h8.kept hq, h9.kept hq, h10.kept hq, h11.kept hq, h12.kept hq, h13.kept hq, h14.kept hq, fun r hr => (h15 r hr).kept hq, h16.kept hq, h17.kept hq, h18.kept hq, h19.kept hq⟩
theorem zC.narrow {G : Nat → Nat} {A B : Nat → Prop} {U : State} {H : Heap} (h : zC G A U H) (hAB : ∀ q, B q → A q) : zC G B U H := by
  obtain ⟨h1, h2, h3, h4, h5, h6, h7, h8, h9, h10, h11, h12, h13, h14, h15, h16, h17, h18, h19⟩ := h
  exact ⟨h1.narrow hAB, h2.narrow hAB, h3.narrow hAB, h4.narrow hAB, h5.narrow hAB, h6.narrow hAB, h7.narrow hAB, h8.narrow hAB, h9.narrow hAB, h10.narrow hAB, h11.narrow hAB, h12.narrow hAB, h13.narrow hAB, h14.narrow hAB, fun r hr => (h15 r hr).narrow hAB, h16.narrow hAB, h17.narrow hAB, h18.narrow hAB, h19.narrow hAB⟩
/-- facts of the tables that don't ride in the lists -/
def zF (G : Nat → Nat) (U : State) : Prop :=
  vk_R "SquareParity" 13 "" (G 9) U ∧ va_Fw RJ0 zCSlen yJ0_length U ∧ va_Fw RJ0 zCSat yJ0_charAt U ∧ va_Nw (.castable "[B" "java/lang/Cloneable") U
theorem zF.warm {G : Nat → Nat} {s U : State} (hW : s.WarmedH U.vm) (h : zF G s) : zF G U := by
  obtain ⟨h1, h2, h3, h4⟩ := h
  exact ⟨h1.warm hW, h2.moved ⟨by decide +kernel, by decide +kernel⟩ hW.alike, h3.moved ⟨by decide +kernel, by decide +kernel⟩ hW.alike, h4.warmC hW⟩
theorem zF.same {G : Nat → Nat} {u U : State} (hv : U.vm = u.vm) (h : zF G u) : zF G U := by
  obtain ⟨h1, h2, h3, h4⟩ := h
  refine ⟨h1.same hv, h2.moved ⟨by decide +kernel, by decide +kernel⟩ ?_, h3.moved ⟨by decide +kernel, by decide +kernel⟩ ?_, h4.same rfl hv.symm⟩
  · rw [hv]; exact Vm.Alike.refl _
  · rw [hv]; exact Vm.Alike.refl _
def zG (G : Nat → Nat) (A : Nat → Prop) (U : State) (H : Heap) : Prop := zC G A U H ∧ zF G U
/-- the constants, handed to a callee -/
theorem zG.pass {G : Nat → Nat} {A B : Nat → Prop} {s : State} {H : Heap} {locs : List Loc} (h : zG G A s s.heap) (hS : va_S A s.heap H locs) (hB : ∀ q, B q → A q) {U : State} (hU : U.heap = H) (hW : s.WarmedH U.vm) : zG G B U U.heap := by
  rw [hU]
  exact ⟨((h.1.kept (fun a h1 h2 => hS.2.1 a h1 h2)).narrow hB).moved hW.alike, h.2.warm hW⟩
def zPre (D : va_G) (G : Nat → Nat) (ws : va_W) (sz : Nat) (U : State) : Prop := U.heap.size = sz ∧ va_P D zCl ws U.heap ∧ va_K D zCl (zTy G) U ∧ va_D (fun _ => True) ws ∧ zG G (va_A ws sz) U U.heap
def zRo (D : va_G) (G : Nat → Nat) (ws : va_W) (U : State) : Prop := va_P D zCl ws U.heap ∧ va_K D zCl (zTy G) U ∧ zG G (fun _ => False) U U.heap
theorem zPre_blind {D : va_G} {G : Nat → Nat} {av : List Value} {ws : va_W} {sz : Nat} : FrameBlind (va_Pc av (zPre D G ws sz)) := by
  intro a U g mk q
  obtain ⟨q0, q1, qP, qK, qD, qG⟩ := q
  exact ⟨q0, q1, qP, va_K.moved (u := U) (U := U.calling g mk a) (Vm.Alike.refl U.vm) qK, qD, zC.moved (u := U) (U := U.calling g mk a) (Vm.Alike.refl U.vm) qG.1, zF.same (u := U) (U := U.calling g mk a) rfl qG.2⟩
theorem zRo_blind {D : va_G} {G : Nat → Nat} {av : List Value} {ws : va_W} : FrameBlind (va_Pc av (zRo D G ws)) := by
  intro a U g mk q
  obtain ⟨q0, qP, qK, qG⟩ := q
  exact ⟨q0, qP, va_K.moved (u := U) (U := U.calling g mk a) (Vm.Alike.refl U.vm) qK, zC.moved (u := U) (U := U.calling g mk a) (Vm.Alike.refl U.vm) qG.1, zF.same (u := U) (U := U.calling g mk a) rfl qG.2⟩
abbrev zB (D : va_G) (A : Nat → Prop) (w : va_W) (t : State) : Prop := va_P D zCl w t.heap ∧ va_D A w
def zQv (D : va_G) {S : Type} (post : S → Prop) (wf : S → va_W) (A : Nat → Prop) : Array Value → State → Outcome → State → Prop := va_Qv post (fun u t => zB D A (wf u) t) A
def zQi (D : va_G) {S : Type} (post : Int32 → S → Prop) (wf : S → va_W) (A : Nat → Prop) : Array Value → State → Outcome → State → Prop := va_Qi post (fun u t => zB D A (wf u) t) A
def zQr (D : va_G) {S : Type} (post : S → Prop) (wf : S → Nat → va_W) (A : Nat → Prop) : Array Value → State → Outcome → State → Prop := va_Qr post (fun u a t => zB D A (wf u a) t) A
/-- a contract: the world wc at its start -/
def zMet (l : Launch) (y : MethodName) (cc : ByteArray) (maxL : Nat) (ret : Option FieldType) (rm : Room) (D : va_G) (G : Nat → Nat) (av : List Value) (wc : va_W) (Qf : (Nat → Prop) → Array Value → State → Outcome → State → Prop) (mc ms : Nat) : Prop :=
  ∀ sz : Nat, Met l y (ws_ y cc maxL ret) rm (va_Pc av (zPre D G wc sz)) (Qf (va_A wc sz)) mc ms (va_A wc sz)
/-- a contract of a method that only reads -/
def zGet (l : Launch) (y : MethodName) (cc : ByteArray) (maxL : Nat) (ret : Option FieldType) (rm : Room) (D : va_G) (G : Nat → Nat) (av : List Value) (wc : va_W) (r : Value) : Prop :=
  Met l y (ws_ y cc maxL ret) rm (va_Pc av (zRo D G wc)) (k2_QcV r) 0 0 (fun _ => False)
def zQ0 : Array Value → State → Outcome → State → Prop := fun _ st o t => o = .returned none ∧ t.heap = st.heap
def zGet0 (l : Launch) (y : MethodName) (cc : ByteArray) (maxL : Nat) (rm : Room) (D : va_G) (G : Nat → Nat) (av : List Value) (wc : va_W) : Prop :=
  Met l y (ws_ y cc maxL none) rm (va_Pc av (zRo D G wc)) zQ0 0 0 (fun _ => False)
theorem z_met {l : Launch} {y : MethodName} {cc : ByteArray} {maxL : Nat} {ret : Option FieldType} {rm : Room} {D : va_G} {G : Nat → Nat} {av : List Value} {wc : va_W} {Qf : (Nat → Prop) → Array Value → State → Outcome → State → Prop} {mc ms : Nat} (hy : plainName y.cls = true) (hlen : (lg_sl av).length ≤ maxL)
    (body : ∀ (p : Program) (e : Env) (s : State) (m : MethodId) (below : List Frame) (meth : Method) (c : Code) (A : Nat → Prop) (ls : Array Slot), p.tables.exec = Jvm.exec → c.code = cc → meth.sig.returnType = ret → c.maxLocals = maxL → s.vm.findClass y.cls = some m.cls → meth.locks = false → meth.name = y.name → (∀ w ∈ lw_all, w.before av.toArray s = true) →
      va_K D zCl (zTy G) s → va_P D zCl wc s.heap → va_D A wc → va_S A s.heap s.heap [] → (∀ q : Nat, s.heap.size ≤ q → A q) → zG G A s s.heap → lv_has ls maxL (lv_args 0 av) →
      W p l e rm s m av.toArray below meth c s.heap [] 0 0 (MQ below (Qf A) av.toArray s mc ms A) (F0 m 0 ls [])) : zMet l y cc maxL ret rm D G av wc Qf mc ms := by
  intro sz
  refine Met.ofW (cc := cc) (maxL := maxL) (ret := ret) hy rfl ?_
  intro p e s m args below meth c s₁ B hml hv
  obtain ⟨rfl, rfl, hP, hK, hD0, hG⟩ := hv
  rw [lg_entry_eq]
  exact body p e s m below meth c (va_A wc s.heap.size) _ B.exec B.bytes B.returns hml (findClass_of_methodNamed B.named) B.notSynchronized (name_of_methodNamed B.named B.method).1 (fun w h => atoms_spec (ws := ws_ y cc maxL ret) B.pre w (List.mem_cons_of_mem _ h)) hK hP hD0.self va_S.rf (fun q h => Or.inr h) hG (lv_entry av hlen)
theorem z_gmet {l : Launch} {y : MethodName} {cc : ByteArray} {maxL : Nat} {ret : Option FieldType} {rm : Room} {D : va_G} {G : Nat → Nat} {av : List Value} {wc : va_W} {Qc : Array Value → State → Outcome → State → Prop} (hy : plainName y.cls = true) (hlen : (lg_sl av).length ≤ maxL)
    (body : ∀ (p : Program) (e : Env) (s : State) (m : MethodId) (below : List Frame) (meth : Method) (c : Code) (ls : Array Slot), p.tables.exec = Jvm.exec → c.code = cc → meth.sig.returnType = ret → c.maxLocals = maxL → s.vm.findClass y.cls = some m.cls → meth.locks = false → (∀ w ∈ lw_all, w.before av.toArray s = true) →
      va_K D zCl (zTy G) s → va_P D zCl wc s.heap → va_S (fun _ => False) s.heap s.heap [] → zG G (fun _ => False) s s.heap → lv_has ls maxL (lv_args 0 av) →
      W p l e rm s m av.toArray below meth c s.heap [] 0 0 (MQ below Qc av.toArray s 0 0 (fun _ => False)) (F0 m 0 ls [])) : Met l y (ws_ y cc maxL ret) rm (va_Pc av (zRo D G wc)) Qc 0 0 (fun _ => False) := by
  refine Met.ofW (cc := cc) (maxL := maxL) (ret := ret) hy rfl ?_
  intro p e s m args below meth c s₁ B hml hv
  obtain ⟨rfl, hP, hK, hG⟩ := hv
  rw [lg_entry_eq]
  exact body p e s m below meth c _ B.exec B.bytes B.returns hml (findClass_of_methodNamed B.named) B.notSynchronized (fun w h => atoms_spec (ws := ws_ y cc maxL ret) B.pre w (List.mem_cons_of_mem _ h)) hK hP va_S.rf hG (lv_entry av hlen)
section ZPASS
variable {s : State} {H : Heap} {D : va_G} {G : Nat → Nat} {ws wc : va_W} {A : Nat → Prop} {locs : List Loc} {C : String} {T : u_T} {N ci q0 : Nat} {b : Addr} {fs As : List Value}
theorem z_subP (hP : va_P D zCl ws H) (isC : List Nat) (hC : isC.map (fun i => ws[i]?) = wc.map some) : va_P D zCl wc H := fun k q hk => by
  obtain ⟨i, -, hi⟩ := va_in_of isC hC hk
  exact hP i q hi
theorem z_preS (hK : va_K D zCl (zTy G) s) (hP : va_P D zCl ws H) (hD : va_D A ws) (hG : zG G A s s.heap) (hS : va_S A s.heap H locs) (hA : ∀ q : Nat, s.heap.size ≤ q → A q) (isC : List Nat) (hC : isC.map (fun i => ws[i]?) = wc.map some) (hn : va_nd isC = true) : PreS s H (va_Pc As (zPre D G wc H.size)) As :=
  ⟨zPre_blind, fun U hU hW => ⟨rfl, by rw [hU], by rw [hU]; exact z_subP hP isC hC, va_K.moved hW.alike hK, (hD.sub isC hn hC).weaken (fun _ _ _ _ => trivial), hG.pass hS (va_free (wc := wc) hD hS hA isC hC) hU hW⟩⟩
theorem z_preSg (hK : va_K D zCl (zTy G) s) (hP : va_P D zCl ws H) (hG : zG G A s s.heap) (hS : va_S A s.heap H locs) (isC : List Nat) (hC : isC.map (fun i => ws[i]?) = wc.map some) : PreS s H (va_Pc As (zRo D G wc)) As :=
  ⟨zRo_blind, fun U hU hW => ⟨rfl, by rw [hU]; exact z_subP hP isC hC, va_K.moved hW.alike hK, hG.pass hS (fun _ h => h.elim) hU hW⟩⟩
theorem z_preV (hr : ∃ cellB : Cell, H[b]? = some cellB ∧ cellB.vm.isStatics = false ∧ s.vm.findClass C = some cellB.cls) (h : PreS s H (va_Pc (.ref b :: As) (zPre D G wc H.size)) (.ref b :: As)) : PreV s H C b (va_Pc (.ref b :: As) (zPre D G wc H.size)) As := ⟨h.1, hr, h.2⟩
theorem z_preVg (hr : ∃ cellB : Cell, H[b]? = some cellB ∧ cellB.vm.isStatics = false ∧ s.vm.findClass C = some cellB.cls) (h : PreS s H (va_Pc (.ref b :: As) (zRo D G wc)) (.ref b :: As)) : PreV s H C b (va_Pc (.ref b :: As) (zRo D G wc)) As := ⟨h.1, hr, h.2⟩
theorem z_rc (hK : va_K D zCl (zTy G) s) (hP : va_P D zCl ws H) (q0 ci : Nat) (he : ws[q0]? = some (b, .inr (ci, fs))) (hc : zCl[ci]? = some (C, T, N)) : ∃ cellB : Cell, H[b]? = some cellB ∧ cellB.vm.isStatics = false ∧ s.vm.findClass C = some cellB.cls := va_recv hK hP hc he
end ZPASS
section ZROWS
variable {p : Program} {l : Launch} {e : Env} {R : Room} {s : State} {m : MethodId} {args : Array Value} {below : List Frame} {meth : Method} {c : Code} {H : Heap} {locs : List Loc} {cells slots : Nat} {Q : State → Prop}
variable {cc : ByteArray} {pc : Nat} {ls : Array Slot} {rest : List Value} {D : va_G} {cl : List vw_C} {A : Nat → Prop} {a : Nat} {tys : List (ClassId × FieldType)} {ws : va_W} {H0 : Heap} {G : Nat → Nat}
theorem z_iadd (hx : p.tables.exec = Jvm.exec) (hb : c.code = cc) {x y : Nat} (hdg : decode cc pc = .ok (.iadd, 1)) (k : W p l e R s m args below meth c H locs cells slots Q (F0 m (pc + 1) ls (.int (nI (x + y)) :: rest))) : W p l e R s m args below meth c H locs cells slots Q (F0 m pc ls (.int (nI y) :: .int (nI x) :: rest)) := lv_iadd hx hb hdg (by rw [nI_add]; exact k)
theorem z_isub (hx : p.tables.exec = Jvm.exec) (hb : c.code = cc) {x y : Nat} (h : y ≤ x) (hdg : decode cc pc = .ok (.isub, 1)) (k : W p l e R s m args below meth c H locs cells slots Q (F0 m (pc + 1) ls (.int (nI (x - y)) :: rest))) : W p l e R s m args below meth c H locs cells slots Q (F0 m pc ls (.int (nI y) :: .int (nI x) :: rest)) := lv_isub hx hb hdg (by rw [pk_sub h]; exact k)
theorem z_idiv (hx : p.tables.exec = Jvm.exec) (hb : c.code = cc) {x y : Nat} (h : x < 2 ^ 31) (h0 : 0 < y) (h1 : y < 2 ^ 31) (hdg : decode cc pc = .ok (.idiv, 1)) (k : W p l e R s m args below meth c H locs cells slots Q (F0 m (pc + 1) ls (.int (nI (x / y)) :: rest))) : W p l e R s m args below meth c H locs cells slots Q (F0 m pc ls (.int (nI y) :: .int (nI x) :: rest)) := lv_idiv hx hb hdg (nI_ne0 h0 h1) (by rw [pk_div h h0 h1]; exact k)
theorem z_irem (hx : p.tables.exec = Jvm.exec) (hb : c.code = cc) {x y : Nat} (h : x < 2 ^ 31) (h0 : 0 < y) (h1 : y < 2 ^ 31) (hdg : decode cc pc = .ok (.irem, 1)) (k : W p l e R s m args below meth c H locs cells slots Q (F0 m (pc + 1) ls (.int (nI (x % y)) :: rest))) : W p l e R s m args below meth c H locs cells slots Q (F0 m pc ls (.int (nI y) :: .int (nI x) :: rest)) := lv_irem hx hb hdg (nI_ne0 h0 h1) (by rw [pk_rem h h0 h1]; exact k)
theorem nx_xor (a b : Nat) : nI a ^^^ nI b = nI (a ^^^ b) := by
  apply Int32.toBitVec_inj.1
  show BitVec.ofNat 32 a ^^^ BitVec.ofNat 32 b = BitVec.ofNat 32 (a ^^^ b)
  apply BitVec.eq_of_getLsbD_eq
  intro i hi
  simp [hi]
theorem z_ixor (hx : p.tables.exec = Jvm.exec) (hb : c.code = cc) {x y : Nat} (hdg : decode cc pc = .ok (.ixor, 1)) (k : W p l e R s m args below meth c H locs cells slots Q (F0 m (pc + 1) ls (.int (nI (x ^^^ y)) :: rest))) : W p l e R s m args below meth c H locs cells slots Q (F0 m pc ls (.int (nI y) :: .int (nI x) :: rest)) := lv_ixor hx hb hdg (by rw [nx_xor]; exact k)
theorem zs_l : ∀ n, n < 32 → ((nI n &&& 31).toBitVec.smod 32).toNat = n := by decide +kernel
theorem z_ishl (hx : p.tables.exec = Jvm.exec) (hb : c.code = cc) {x y : Nat} (hy : y < 32) (h : x * 2 ^ y < 2 ^ 32) (hdg : decode cc pc = .ok (.ishl, 1)) (k : W p l e R s m args below meth c H locs cells slots Q (F0 m (pc + 1) ls (.int (nI (x * 2 ^ y)) :: rest))) : W p l e R s m args below meth c H locs cells slots Q (F0 m pc ls (.int (nI y) :: .int (nI x) :: rest)) := lv_ishl hx hb hdg (by rw [pk_shlN _ y (zs_l y hy) h]; exact k)
theorem z_ishr (hx : p.tables.exec = Jvm.exec) (hb : c.code = cc) {x y : Nat} (hy : y < 32) (h : x < 2 ^ 31) (hdg : decode cc pc = .ok (.ishr, 1)) (k : W p l e R s m args below meth c H locs cells slots Q (F0 m (pc + 1) ls (.int (nI (x / 2 ^ y)) :: rest))) : W p l e R s m args below meth c H locs cells slots Q (F0 m pc ls (.int (nI y) :: .int (nI x) :: rest)) := lv_ishr hx hb hdg (by rw [pk_shrN h _ y (zs_l y hy)]; exact k)
/-- the low k bits of any int -/
theorem z_iandK (hx : p.tables.exec = Jvm.exec) (hb : c.code = cc) {x M : Int32} (k : Nat) (hM : M.toBitVec.toNat = 2 ^ k - 1) (hdg : decode cc pc = .ok (.iand, 1)) (kk : W p l e R s m args below meth c H locs cells slots Q (F0 m (pc + 1) ls (.int (nI (x.toBitVec.toNat % 2 ^ k)) :: rest))) : W p l e R s m args below meth c H locs cells slots Q (F0 m pc ls (.int M :: .int x :: rest)) := lv_iand hx hb hdg (by rw [pk_and x k hM]; exact kk)
theorem z_iandN (hx : p.tables.exec = Jvm.exec) (hb : c.code = cc) {x : Nat} {M : Int32} (h : x < 2 ^ 32) (k : Nat) (hM : M.toBitVec.toNat = 2 ^ k - 1) (hdg : decode cc pc = .ok (.iand, 1)) (kk : W p l e R s m args below meth c H locs cells slots Q (F0 m (pc + 1) ls (.int (nI (x % 2 ^ k)) :: rest))) : W p l e R s m args below meth c H locs cells slots Q (F0 m pc ls (.int M :: .int (nI x) :: rest)) := lv_iand hx hb hdg (by rw [pk_andN h k hM]; exact kk)
theorem z_i2c_at {n : Nat} (h : n < 65536) : ((nI n).toUInt32 % 65536).toInt32 = nI n := by
  rw [pk_char, pk_tn (by omega), Nat.mod_eq_of_lt h]
theorem z_i2c (hx : p.tables.exec = Jvm.exec) (hb : c.code = cc) {x : Nat} (h : x < 65536) (hdg : decode cc pc = .ok (.i2c, 1)) (k : W p l e R s m args below meth c H locs cells slots Q (F0 m (pc + 1) ls (.int (nI x) :: rest))) : W p l e R s m args below meth c H locs cells slots Q (F0 m pc ls (.int (nI x) :: rest)) := lv_i2c hx hb hdg (z_i2c_at h) k
theorem z_i2b (hx : p.tables.exec = Jvm.exec) (hb : c.code = cc) {x : Nat} (hdg : decode cc pc = .ok (.i2b, 1)) (k : W p l e R s m args below meth c H locs cells slots Q (F0 m (pc + 1) ls (.int (sb_b x) :: rest))) : W p l e R s m args below meth c H locs cells slots Q (F0 m pc ls (.int (nI x) :: rest)) := lv_i2b hx hb hdg rfl k
theorem z_narc {n : Nat} (h : n < 65536) : vp_nar .char (nI n) = nI n := by
  unfold vp_nar
  rw [(pk_charN h).1]
theorem z_iald (hx : p.tables.exec = Jvm.exec) (hb : c.code = cc) (hK : va_K D cl tys s) (hP : va_P D cl ws H) (q0 t0 : Nat) {cA : ClassId} {n j : Nat} {f : Nat → Int32} {v : Int32} (ha : ws[q0]? = some (a, .inl (cA, n, .inl f))) (ht : tys[t0]? = some (cA, .int)) (hj : j < n) (hn : n < 2 ^ 31) (hv : f j = v) (hdg : decode cc pc = .ok (.iaload, 1))
    (kk : W p l e R s m args below meth c H locs cells slots Q (F0 m (pc + 1) ls (.int v :: rest))) : W p l e R s m args below meth c H locs cells slots Q (F0 m pc ls (.int (nI j) :: .ref a :: rest)) := va_iald hx hb hK hP q0 t0 ha ht (vp_in_nI hj hn) hdg (by rw [nI_clamp (by omega), hv]; exact kk)
theorem z_cald (hx : p.tables.exec = Jvm.exec) (hb : c.code = cc) (hK : va_K D cl tys s) (hP : va_P D cl ws H) (q0 t0 : Nat) {cA : ClassId} {n j : Nat} {f : Nat → Int32} {v : Int32} (ha : ws[q0]? = some (a, .inl (cA, n, .inl f))) (ht : tys[t0]? = some (cA, .char)) (hj : j < n) (hn : n < 2 ^ 31) (hv : f j = v) (hdg : decode cc pc = .ok (.caload, 1))
    (kk : W p l e R s m args below meth c H locs cells slots Q (F0 m (pc + 1) ls (.int v :: rest))) : W p l e R s m args below meth c H locs cells slots Q (F0 m pc ls (.int (nI j) :: .ref a :: rest)) := va_cald hx hb hK hP q0 t0 ha ht (vp_in_nI hj hn) hdg (by rw [nI_clamp (by omega), hv]; exact kk)
theorem z_bald (hx : p.tables.exec = Jvm.exec) (hb : c.code = cc) (hK : va_K D cl tys s) (hP : va_P D cl ws H) (q0 t0 : Nat) {cA : ClassId} {n j : Nat} {f : Nat → Int32} {v : Int32} (ha : ws[q0]? = some (a, .inl (cA, n, .inl f))) (ht : tys[t0]? = some (cA, .byte)) (hj : j < n) (hn : n < 2 ^ 31) (hv : f j = v) (hdg : decode cc pc = .ok (.baload, 1))
    (kk : W p l e R s m args below meth c H locs cells slots Q (F0 m (pc + 1) ls (.int v :: rest))) : W p l e R s m args below meth c H locs cells slots Q (F0 m pc ls (.int (nI j) :: .ref a :: rest)) := va_bald hx hb hK hP q0 t0 ha ht (vp_in_nI hj hn) hdg (by rw [nI_clamp (by omega), hv]; exact kk)
/-- a load out of a constant table of ints -/
theorem z_tald {t N j : Nat} {f : Nat → Value} {v : Value} (hx : p.tables.exec = Jvm.exec) (hb : c.code = cc) (hT : va_T .int t N f A s s.heap) (hS : va_S A s.heap H locs) (hj : j < N) (hN : N < 2 ^ 31) (hv : f j = v) (hdg : decode cc pc = .ok (.iaload, 1))
    (kk : W p l e R s m args below meth c H locs cells slots Q (F0 m (pc + 1) ls (v :: rest))) : W p l e R s m args below meth c H locs cells slots Q (F0 m pc ls (.int (nI j) :: .ref t :: rest)) := va_ti hx hb hT hS (vp_in_nI hj hN) (by rw [nI_clamp (by omega)]; exact hv) hdg kk
/-- a row out of a constant table of arrays -/
theorem z_rald {t N j : Nat} {f : Nat → Value} {v : Value} (hx : p.tables.exec = Jvm.exec) (hb : c.code = cc) (hT : va_T (.array .int) t N f A s s.heap) (hS : va_S A s.heap H locs) (hj : j < N) (hN : N < 2 ^ 31) (hv : f j = v) (hdg : decode cc pc = .ok (.aaload, 1))
    (kk : W p l e R s m args below meth c H locs cells slots Q (F0 m (pc + 1) ls (v :: rest))) : W p l e R s m args below meth c H locs cells slots Q (F0 m pc ls (.int (nI j) :: .ref t :: rest)) := by
  obtain ⟨cell, h1, h2, h3, h4, h5, h6, h7⟩ := hT
  have hc : (nI j).toNatClampNeg = j := nI_clamp (by omega)
  have hin' : ¬ (nI j < 0 ∨ cell.slots.size ≤ (nI j).toNatClampNeg) := by
    intro q
    rcases q with q | q
    · exact nI_pos (by omega) q
    · rw [hc] at q; omega
  exact W.aald (v := v) (ty := .array .int) hx hb (by rw [hS.2.1 t (Array.getElem?_eq_some_iff.mp h1).1 h7]; exact h1) h2 rfl h3 hin' (by rw [hc, h6 _ hj, hv]) rfl rfl hdg kk
theorem z_iast (hx : p.tables.exec = Jvm.exec) (hb : c.code = cc) (hK : va_K D cl tys s) (hP : va_P D cl ws H) (hD : va_D A ws) (hS : va_S A H0 H locs) (q0 t0 : Nat) {cA : ClassId} {n j : Nat} {f : Nat → Int32} {x : Int32} (ha : ws[q0]? = some (a, .inl (cA, n, .inl f))) (ht : tys[t0]? = some (cA, .int)) (hj : j < n) (hn : n < 2 ^ 31) (hdg : decode cc pc = .ok (.iastore, 1))
    (kk : ∀ (H1 : Heap) (locs1 : List Loc), va_P D cl (ws.set q0 (a, .inl (cA, n, .inl (upd f j x)))) H1 → va_D A (ws.set q0 (a, .inl (cA, n, .inl (upd f j x)))) → va_S A H0 H1 locs1 → W p l e R s m args below meth c H1 locs1 cells slots Q (F0 m (pc + 1) ls rest)) : W p l e R s m args below meth c H locs cells slots Q (F0 m pc ls (.int x :: .int (nI j) :: .ref a :: rest)) :=
  va_iast hx hb hK hP hD hS q0 t0 ha ht (vp_in_nI hj hn) hdg (by rw [nI_clamp (by omega)]; exact kk)
theorem z_cast (hx : p.tables.exec = Jvm.exec) (hb : c.code = cc) (hK : va_K D cl tys s) (hP : va_P D cl ws H) (hD : va_D A ws) (hS : va_S A H0 H locs) (q0 t0 : Nat) {cA : ClassId} {n j x : Nat} {f : Nat → Int32} (ha : ws[q0]? = some (a, .inl (cA, n, .inl f))) (ht : tys[t0]? = some (cA, .char)) (hj : j < n) (hn : n < 2 ^ 31) (hxx : x < 65536) (hdg : decode cc pc = .ok (.castore, 1))
    (kk : ∀ (H1 : Heap) (locs1 : List Loc), va_P D cl (ws.set q0 (a, .inl (cA, n, .inl (upd f j (nI x))))) H1 → va_D A (ws.set q0 (a, .inl (cA, n, .inl (upd f j (nI x))))) → va_S A H0 H1 locs1 → W p l e R s m args below meth c H1 locs1 cells slots Q (F0 m (pc + 1) ls rest)) : W p l e R s m args below meth c H locs cells slots Q (F0 m pc ls (.int (nI x) :: .int (nI j) :: .ref a :: rest)) :=
  va_cast hx hb hK hP hD hS q0 t0 ha ht (vp_in_nI hj hn) hdg (by rw [nI_clamp (by omega), z_narc hxx]; exact kk)
theorem z_bast (hx : p.tables.exec = Jvm.exec) (hb : c.code = cc) (hK : va_K D cl tys s) (hP : va_P D cl ws H) (hD : va_D A ws) (hS : va_S A H0 H locs) (q0 t0 : Nat) {cA : ClassId} {n j x : Nat} {f : Nat → Int32} (ha : ws[q0]? = some (a, .inl (cA, n, .inl f))) (ht : tys[t0]? = some (cA, .byte)) (hj : j < n) (hn : n < 2 ^ 31) (hdg : decode cc pc = .ok (.bastore, 1))
    (kk : ∀ (H1 : Heap) (locs1 : List Loc), va_P D cl (ws.set q0 (a, .inl (cA, n, .inl (upd f j (sb_b x))))) H1 → va_D A (ws.set q0 (a, .inl (cA, n, .inl (upd f j (sb_b x))))) → va_S A H0 H1 locs1 → W p l e R s m args below meth c H1 locs1 cells slots Q (F0 m (pc + 1) ls rest)) : W p l e R s m args below meth c H locs cells slots Q (F0 m pc ls (.int (sb_b x) :: .int (nI j) :: .ref a :: rest)) :=
  va_bast hx hb hK hP hD hS q0 t0 ha ht (vp_in_nI hj hn) hdg (by rw [nI_clamp (by omega), show vp_nar .byte (sb_b x) = sb_b x from pk_vb _]; exact kk)
/-- new arrays, of a class that is known already -/
theorem z_newi (hx : p.tables.exec = Jvm.exec) (hb : c.code = cc) (harr : (Cond.arrayClass .int).before args s = true) (hK : va_K D cl (zTy G) s) (hP : va_P D cl ws H) (hD : va_D A ws) (hS : va_S A H0 H locs) (hA : ∀ q, H0.size ≤ q → A q) {N : Nat} (hN : N ≤ 1000000) (hcells : cells + 1 ≤ R.cells) (hslots : slots + N ≤ R.slots) (hdg : decode cc pc = .ok (.newarray .int, 2))
    (kk : ∀ (q : Nat) (H1 : Heap), va_P D cl (ws ++ [(q, .inl (G 0, N, .inl (fun _ => nI 0)))]) H1 → va_D A (ws ++ [(q, .inl (G 0, N, .inl (fun _ => nI 0)))]) → va_S A H0 H1 locs → W p l e R s m args below meth c H1 locs (cells + 1) (slots + N) Q (F0 m (pc + 2) ls (.ref q :: rest))) : W p l e R s m args below meth c H locs cells slots Q (F0 m pc ls (.int (nI N) :: rest)) :=
  va_newa (atype := .int) (ty := .int) (a0 := (N, .inl (fun _ => nI 0))) hx hb harr rfl hK hP hD hS hA (fun _ => rfl) (nI_pos (by omega)) (nI_clamp (by omega)) (by show N * 4 ≤ 536870912; omega) hcells hslots hdg (fun q cA H1 hK1 hP1 hD1 hS1 => by
    have e : cA = G 0 := Option.some.inj ((va_nm_int (hK1.2 3 (cA, .int) rfl).2).symm.trans (va_nm_int (hK.2 0 (G 0, .int) rfl).2))
    subst e
    exact kk q H1 hP1 hD1 hS1)
theorem z_newc (hx : p.tables.exec = Jvm.exec) (hb : c.code = cc) (harr : (Cond.arrayClass .char).before args s = true) (hK : va_K D cl (zTy G) s) (hP : va_P D cl ws H) (hD : va_D A ws) (hS : va_S A H0 H locs) (hA : ∀ q, H0.size ≤ q → A q) {N : Nat} (hN : N ≤ 1000000) (hcells : cells + 1 ≤ R.cells) (hslots : slots + N ≤ R.slots) (hdg : decode cc pc = .ok (.newarray .char, 2))
    (kk : ∀ (q : Nat) (H1 : Heap), va_P D cl (ws ++ [(q, .inl (G 1, N, .inl (fun _ => nI 0)))]) H1 → va_D A (ws ++ [(q, .inl (G 1, N, .inl (fun _ => nI 0)))]) → va_S A H0 H1 locs → W p l e R s m args below meth c H1 locs (cells + 1) (slots + N) Q (F0 m (pc + 2) ls (.ref q :: rest))) : W p l e R s m args below meth c H locs cells slots Q (F0 m pc ls (.int (nI N) :: rest)) :=
  va_newa (atype := .char) (ty := .char) (a0 := (N, .inl (fun _ => nI 0))) hx hb harr rfl hK hP hD hS hA (fun _ => rfl) (nI_pos (by omega)) (nI_clamp (by omega)) (by show N * 2 ≤ 536870912; omega) hcells hslots hdg (fun q cA H1 hK1 hP1 hD1 hS1 => by
    have e : cA = G 1 := Option.some.inj ((va_nm_char (hK1.2 3 (cA, .char) rfl).2).symm.trans (va_nm_char (hK.2 1 (G 1, .char) rfl).2))
    subst e
    exact kk q H1 hP1 hD1 hS1)
theorem z_newb (hx : p.tables.exec = Jvm.exec) (hb : c.code = cc) (harr : (Cond.arrayClass .byte).before args s = true) (hK : va_K D cl (zTy G) s) (hP : va_P D cl ws H) (hD : va_D A ws) (hS : va_S A H0 H locs) (hA : ∀ q, H0.size ≤ q → A q) {N : Nat} (hN : N ≤ 1000000) (hcells : cells + 1 ≤ R.cells) (hslots : slots + N ≤ R.slots) (hdg : decode cc pc = .ok (.newarray .byte, 2))
    (kk : ∀ (q : Nat) (H1 : Heap), va_P D cl (ws ++ [(q, .inl (G 2, N, .inl (fun _ => nI 0)))]) H1 → va_D A (ws ++ [(q, .inl (G 2, N, .inl (fun _ => nI 0)))]) → va_S A H0 H1 locs → W p l e R s m args below meth c H1 locs (cells + 1) (slots + N) Q (F0 m (pc + 2) ls (.ref q :: rest))) : W p l e R s m args below meth c H locs cells slots Q (F0 m pc ls (.int (nI N) :: rest)) :=
  va_newa (atype := .byte) (ty := .byte) (a0 := (N, .inl (fun _ => nI 0))) hx hb harr rfl hK hP hD hS hA (fun _ => rfl) (nI_pos (by omega)) (nI_clamp (by omega)) (by show N * 1 ≤ 536870912; omega) hcells hslots hdg (fun q cA H1 hK1 hP1 hD1 hS1 => by
    have e : cA = G 2 := Option.some.inj ((va_nm_byte (hK1.2 3 (cA, .byte) rfl).2).symm.trans (va_nm_byte (hK.2 2 (G 2, .byte) rfl).2))
    subst e
    exact kk q H1 hP1 hD1 hS1)
/-- a loop of known length; the cells and slots made so far may depend on what is left -/
theorem z_loop {st : List Value} (cf sf : Nat → Nat) (I : Nat → Heap → List Loc → Array Slot → Prop) (N : Nat) (h0 : I N H locs ls)
    (hb : ∀ (H : Heap) (locs : List Loc) (ls : Array Slot), I 0 H locs ls → W p l e R s m args below meth c H locs (cf 0) (sf 0) Q (F0 m pc ls st))
    (hs : ∀ k : Nat, (∀ (H : Heap) (locs : List Loc) (ls : Array Slot), I k H locs ls → W p l e R s m args below meth c H locs (cf k) (sf k) Q (F0 m pc ls st)) → ∀ (H : Heap) (locs : List Loc) (ls : Array Slot), I (k + 1) H locs ls → W p l e R s m args below meth c H locs (cf (k + 1)) (sf (k + 1)) Q (F0 m pc ls st)) :
    W p l e R s m args below meth c H locs (cf N) (sf N) Q (F0 m pc ls st) := by
  have h : ∀ (k : Nat) (H : Heap) (locs : List Loc) (ls : Array Slot), I k H locs ls → W p l e R s m args below meth c H locs (cf k) (sf k) Q (F0 m pc ls st) := by
    intro k
    induction k with
    | zero => exact hb
    | succ k ih => exact hs k ih
  exact h N H locs ls h0
/-- ends -/
theorem z_gret {ty : FieldType} {v : Int32} (hx : p.tables.exec = Jvm.exec) (hb : c.code = cc) (hr : meth.sig.returnType = some ty) (hn : narrow ty (.int v) = .int v) (hlocks : meth.locks = false) (hdg : decode cc pc = .ok (.ireturn, 1)) : W p l e R s m args below meth c s.heap [] 0 0 (MQ below (k2_QcV (.int v)) args s 0 0 (fun _ => False)) (F0 m pc ls [.int v]) :=
  W.zret hx hb hr hn (fun t ht _ => ⟨rfl, ht⟩) (fun _ h => by cases h) hdg hlocks
theorem z_garet {rt : FieldType} {v : Value} (hx : p.tables.exec = Jvm.exec) (hb : c.code = cc) (hr : meth.sig.returnType = some rt) (hrt : (∃ n, rt = .object n) ∨ ∃ t, rt = .array t) (hv : v = .null ∨ ∃ a, v = .ref a) (hlocks : meth.locks = false) (hdg : decode cc pc = .ok (.areturn, 1)) : W p l e R s m args below meth c s.heap [] 0 0 (MQ below (k2_QcV v) args s 0 0 (fun _ => False)) (F0 m pc ls [v]) :=
  W.aret hx hb hr hrt hv (fun t ht _ => ⟨rfl, ht⟩) (fun _ h => by cases h) hdg hlocks
theorem z_gvret (hx : p.tables.exec = Jvm.exec) (hb : c.code = cc) (hr : meth.sig.returnType = none) (hlocks : meth.locks = false) (hdg : decode cc pc = .ok (.return_, 1)) : W p l e R s m args below meth c s.heap [] 0 0 (MQ below zQ0 args s 0 0 (fun _ => False)) (F0 m pc ls []) :=
  W.vret hx hb hr (fun t ht _ => ⟨rfl, ht⟩) (fun _ h => by cases h) hdg hlocks
theorem z_vret {S : Type} {post : S → Prop} {wf : S → va_W} (hx : p.tables.exec = Jvm.exec) (hb : c.code = cc) (hr : meth.sig.returnType = none) (hlocks : meth.locks = false) (u : S) (hp : post u) (hP : va_P D zCl (wf u) H) (hD : va_D A (wf u)) (hS : va_S A s.heap H locs) (hdg : decode cc pc = .ok (.return_, 1)) : W p l e R s m args below meth c H locs cells slots (MQ below (zQv D post wf A) args s cells slots A) (F0 m pc ls []) :=
  W.vret hx hb hr (fun t ht _ => ⟨⟨u, rfl, hp, by rw [ht]; exact hP, hD⟩, hS.F ht⟩) hS.2.2 hdg hlocks
theorem z_iret {S : Type} {post : Int32 → S → Prop} {wf : S → va_W} {ty : FieldType} {v : Int32} (hx : p.tables.exec = Jvm.exec) (hb : c.code = cc) (hr : meth.sig.returnType = some ty) (hn : narrow ty (.int v) = .int v) (hlocks : meth.locks = false) (u : S) (hp : post v u) (hP : va_P D zCl (wf u) H) (hD : va_D A (wf u)) (hS : va_S A s.heap H locs) (hdg : decode cc pc = .ok (.ireturn, 1)) : W p l e R s m args below meth c H locs cells slots (MQ below (zQi D post wf A) args s cells slots A) (F0 m pc ls [.int v]) :=
  W.zret hx hb hr hn (fun t ht _ => ⟨⟨v, u, rfl, hp, by rw [ht]; exact hP, hD⟩, hS.F ht⟩) hS.2.2 hdg hlocks
theorem z_aret {S : Type} {post : S → Prop} {wf : S → Nat → va_W} {rt : FieldType} {q : Nat} (hx : p.tables.exec = Jvm.exec) (hb : c.code = cc) (hr : meth.sig.returnType = some rt) (hrt : (∃ n, rt = .object n) ∨ ∃ t, rt = .array t) (hlocks : meth.locks = false) (u : S) (hp : post u) (hP : va_P D zCl (wf u q) H) (hD : va_D A (wf u q)) (hS : va_S A s.heap H locs) (hdg : decode cc pc = .ok (.areturn, 1)) : W p l e R s m args below meth c H locs cells slots (MQ below (zQr D post wf A) args s cells slots A) (F0 m pc ls [.ref q]) :=
  W.aret hx hb hr hrt (Or.inr ⟨q, rfl⟩) (fun t ht _ => ⟨⟨u, q, rfl, hp, by rw [ht]; exact hP, hD⟩, hS.F ht⟩) hS.2.2 hdg hlocks
/-- calls of methods that only read -/
theorem z_getc {r : Value} {a0 : Array Value} {st0 : List Value} (hr : va_Run p l e R s m args below meth c H locs cells slots 0 0 (F0 m pc ls st0) rest (k2_QcV r a0) (fun _ => False)) (kk : W p l e R s m args below meth c H locs cells slots Q (F0 m (pc + 3) ls (r :: rest))) : W p l e R s m args below meth c H locs cells slots Q (F0 m pc ls st0) := W.callV hr.run kk
theorem z_getv {a0 : Array Value} {st0 : List Value} (hr : va_Run p l e R s m args below meth c H locs cells slots 0 0 (F0 m pc ls st0) rest (zQ0 a0) (fun _ => False)) (kk : W p l e R s m args below meth c H locs cells slots Q (F0 m (pc + 3) ls rest)) : W p l e R s m args below meth c H locs cells slots Q (F0 m pc ls st0) := by
  intro T hT X
  obtain ⟨v, st₀, t, T', L, h0, X', hL, e1, -, ⟨hv, hh⟩, st⟩ := hr T hT X
  cases hv
  obtain ⟨t2, a1, b1⟩ := kk T' (by rw [e1, hh, h0]) (Stand.forget X' (fun q h => (hL q h).elim))
  exact ⟨t2, st t2 a1, b1⟩
theorem z_getF {r : Value} {a0 : Array Value} {st0 : List Value} (hr : va_Run5 p l e R s m args below meth c H locs cells slots 0 0 (F0 m pc ls st0) rest (k2_QcV r a0) (fun _ => False)) (kk : W p l e R s m args below meth c H locs cells slots Q (F0 m (pc + 5) ls (r :: rest))) : W p l e R s m args below meth c H locs cells slots Q (F0 m pc ls st0) := by
  intro T hT X
  obtain ⟨v, st₀, t, T', L, h0, X', hL, e1, -, ⟨hv, hh⟩, st⟩ := hr T hT X
  cases hv
  obtain ⟨t2, a1, b1⟩ := kk T' (by rw [e1, hh, h0]) (Stand.forget X' (fun q h => (hL q h).elim))
  exact ⟨t2, st t2 a1, b1⟩
/-- calls, with the rest of the world kept -/
theorem z_callv {S : Type} {post : S → Prop} {wf : S → va_W} {wc wr : va_W} {mc ms : Nat} {a0 : Array Value} {st0 : List Value} (hr : va_Run p l e R s m args below meth c H locs cells slots mc ms (F0 m pc ls st0) rest (zQv D post wf (va_A wc H.size) a0) (va_A wc H.size))
    (hP : va_P D zCl ws H) (hD : va_D A ws) (hS : va_S A H0 H locs) (hA : ∀ q, H0.size ≤ q → A q) (isC isR : List Nat) (hC : isC.map (fun i => ws[i]?) = wc.map some) (hR : isR.map (fun i => ws[i]?) = wr.map some) (hn : va_nd isR = true) (hdis : ∀ i ∈ isR, i ∉ isC)
    (kk : ∀ (u : S) (H1 : Heap) (locs1 : List Loc), post u → va_P D zCl (wr ++ wf u) H1 → va_D A (wr ++ wf u) → va_S A H0 H1 locs1 → W p l e R s m args below meth c H1 locs1 (cells + mc) (slots + ms) Q (F0 m (pc + 3) ls rest)) : W p l e R s m args below meth c H locs cells slots Q (F0 m pc ls st0) := by
  have hF := va_free (wc := wc) hD hS hA isC hC
  refine va_callv hr hS (fun q _ h => hF q h) hF (fun u t H1 locs1 ht hvm hp hB hz hk hS1 => ?_)
  obtain ⟨hP1, hD1⟩ := hB
  rw [ht] at hP1
  obtain ⟨hP2, hD2⟩ := va_join (wr := wr) (w1 := wf u) hP hD isC isR hC hR hn hdis hk hF hP1 hD1
  exact kk u H1 locs1 hp hP2 hD2 hS1
theorem z_calli {S : Type} {post : Int32 → S → Prop} {wf : S → va_W} {wc wr : va_W} {mc ms : Nat} {a0 : Array Value} {st0 : List Value} (hr : va_Run p l e R s m args below meth c H locs cells slots mc ms (F0 m pc ls st0) rest (zQi D post wf (va_A wc H.size) a0) (va_A wc H.size))
    (hP : va_P D zCl ws H) (hD : va_D A ws) (hS : va_S A H0 H locs) (hA : ∀ q, H0.size ≤ q → A q) (isC isR : List Nat) (hC : isC.map (fun i => ws[i]?) = wc.map some) (hR : isR.map (fun i => ws[i]?) = wr.map some) (hn : va_nd isR = true) (hdis : ∀ i ∈ isR, i ∉ isC)
    (kk : ∀ (r : Int32) (u : S) (H1 : Heap) (locs1 : List Loc), post r u → va_P D zCl (wr ++ wf u) H1 → va_D A (wr ++ wf u) → va_S A H0 H1 locs1 → W p l e R s m args below meth c H1 locs1 (cells + mc) (slots + ms) Q (F0 m (pc + 3) ls (.int r :: rest))) : W p l e R s m args below meth c H locs cells slots Q (F0 m pc ls st0) := by
  have hF := va_free (wc := wc) hD hS hA isC hC
  refine va_calli hr hS (fun q _ h => hF q h) hF (fun r u t H1 locs1 ht hvm hp hB hz hk hS1 => ?_)
  obtain ⟨hP1, hD1⟩ := hB
  rw [ht] at hP1
  obtain ⟨hP2, hD2⟩ := va_join (wr := wr) (w1 := wf u) hP hD isC isR hC hR hn hdis hk hF hP1 hD1
  exact kk r u H1 locs1 hp hP2 hD2 hS1
theorem z_callr {S : Type} {post : S → Prop} {wf : S → Nat → va_W} {wc wr : va_W} {mc ms : Nat} {a0 : Array Value} {st0 : List Value} (hr : va_Run p l e R s m args below meth c H locs cells slots mc ms (F0 m pc ls st0) rest (zQr D post wf (va_A wc H.size) a0) (va_A wc H.size))
    (hP : va_P D zCl ws H) (hD : va_D A ws) (hS : va_S A H0 H locs) (hA : ∀ q, H0.size ≤ q → A q) (isC isR : List Nat) (hC : isC.map (fun i => ws[i]?) = wc.map some) (hR : isR.map (fun i => ws[i]?) = wr.map some) (hn : va_nd isR = true) (hdis : ∀ i ∈ isR, i ∉ isC)
    (kk : ∀ (u : S) (ra : Nat) (H1 : Heap) (locs1 : List Loc), post u → va_P D zCl (wr ++ wf u ra) H1 → va_D A (wr ++ wf u ra) → va_S A H0 H1 locs1 → W p l e R s m args below meth c H1 locs1 (cells + mc) (slots + ms) Q (F0 m (pc + 3) ls (.ref ra :: rest))) : W p l e R s m args below meth c H locs cells slots Q (F0 m pc ls st0) := by
  have hF := va_free (wc := wc) hD hS hA isC hC
  refine va_callr hr hS (fun q _ h => hF q h) hF (fun u ra t H1 locs1 ht hvm hp hB hz hk hS1 => ?_)
  obtain ⟨hP1, hD1⟩ := hB
  rw [ht] at hP1
  obtain ⟨hP2, hD2⟩ := va_join (wr := wr) (w1 := wf u ra) hP hD isC isR hC hR hn hdis hk hF hP1 hD1
  exact kk u ra H1 locs1 hp hP2 hD2 hS1
end ZROWS
section ZACC
variable {G : Nat → Nat} {A : Nat → Prop} {U : State} {H : Heap}
theorem zG.compact (h : zG G A U H) : va_Z "java/lang/String" "COMPACT_STRINGS" "Z" (.int (nI 1)) A U H := h.1.1
theorem zG.sioobe (h : zG G A U H) : va_Z "jdk/internal/util/Preconditions" "SIOOBE_FORMATTER" "Ljava/util/function/BiFunction;" .null A U H ∨ ∃ t : Nat, va_Z "jdk/internal/util/Preconditions" "SIOOBE_FORMATTER" "Ljava/util/function/BiFunction;" (.ref t) A U H := h.1.2.1
theorem zG.rooms (h : zG G A U H) : va_Z "SquareParity" "ROOM" "[I" (.ref (G 3)) A U H := h.1.2.2.1
theorem zG.roomT (h : zG G A U H) : va_T .int (G 3) 10 (fun j => .int (nI (zroom j))) A U H := h.1.2.2.2.1
theorem zG.checks (h : zG G A U H) : va_Z "SquareParity" "CHECKS" "[I" (.ref (G 4)) A U H := h.1.2.2.2.2.1
theorem zG.checkT (h : zG G A U H) : va_T .int (G 4) 10 (fun j => .int (nI (zch j))) A U H := h.1.2.2.2.2.2.1
theorem zG.sets (h : zG G A U H) : va_Z "ErrorCorrection" "FACTOR_SETS" "[I" (.ref (G 5)) A U H := h.1.2.2.2.2.2.2.1
theorem zG.setT (h : zG G A U H) : va_T .int (G 5) 16 (fun j => .int (nI (zfs j))) A U H := h.1.2.2.2.2.2.2.2.1
theorem zG.logs (h : zG G A U H) : va_Z "ErrorCorrection" "LOG" "[I" (.ref (G 7)) A U H := h.1.2.2.2.2.2.2.2.2.1
theorem zG.logT (h : zG G A U H) : va_T .int (G 7) 256 (fun j => .int (nI (zlog j))) A U H := h.1.2.2.2.2.2.2.2.2.2.1
theorem zG.alogs (h : zG G A U H) : va_Z "ErrorCorrection" "ALOG" "[I" (.ref (G 8)) A U H := h.1.2.2.2.2.2.2.2.2.2.2.1
theorem zG.alogT (h : zG G A U H) : va_T .int (G 8) 255 (fun j => .int (nI (zalog j))) A U H := h.1.2.2.2.2.2.2.2.2.2.2.2.1
theorem zG.factors (h : zG G A U H) : va_Z "ErrorCorrection" "FACTORS" "[[I" (.ref (G 6)) A U H := h.1.2.2.2.2.2.2.2.2.2.2.2.2.1
theorem zG.factorT (h : zG G A U H) : va_T (.array .int) (G 6) 16 (fun j => .ref (G (20 + j))) A U H := h.1.2.2.2.2.2.2.2.2.2.2.2.2.2.1
theorem zG.rowT (h : zG G A U H) {r : Nat} (hr : r < 16) : va_T .int (G (20 + r)) (zfs r) (fun j => .int (nI (zfac r j))) A U H := h.1.2.2.2.2.2.2.2.2.2.2.2.2.2.2.1 r hr
theorem zG.eO (h : zG G A U H) : va_O "java/lang/String" (G 9) A U H := h.1.2.2.2.2.2.2.2.2.2.2.2.2.2.2.2.1
theorem zG.eC (h : zG G A U H) : va_OF "java/lang/String" "coder" "B" (.int (nI 0)) (G 9) A U H := h.1.2.2.2.2.2.2.2.2.2.2.2.2.2.2.2.2.1
theorem zG.eV (h : zG G A U H) : va_OF "java/lang/String" "value" "[B" (.ref (G 10)) (G 9) A U H := h.1.2.2.2.2.2.2.2.2.2.2.2.2.2.2.2.2.2.1
theorem zG.eT (h : zG G A U H) : va_T .byte (G 10) 0 (fun _ => .int (nI 0)) A U H := h.1.2.2.2.2.2.2.2.2.2.2.2.2.2.2.2.2.2.2
theorem zG.eR (h : zG G A U H) : vk_R "SquareParity" 13 "" (G 9) U := h.2.1
theorem zG.fLen (h : zG G A U H) : va_Fw RJ0 zCSlen yJ0_length U := h.2.2.1
theorem zG.fAt (h : zG G A U H) : va_Fw RJ0 zCSat yJ0_charAt U := h.2.2.2.1
theorem zG.cln (h : zG G A U H) : va_Nw (.castable "[B" "java/lang/Cloneable") U := h.2.2.2.2
end ZACC
/-- the words of calls: of the superclass's own, inherited, overridden, through an interface -/
theorem z_su {own : String} {idx : Nat} {y : MethodName} (h1 : Cond.methodLink own idx y ∈ lw_all) (h2 : Cond.sameMethod y.cls y.cls y.name y.desc ∈ lw_all) (h3 : Cond.superclass own y.cls ∈ lw_all) (h4 : Cond.instanceMethod y ∈ lw_all) (h5 : Cond.initialized y.cls ∈ lw_all) : ∀ w ∈ ([.methodLink own idx y, .sameMethod y.cls y.cls y.name y.desc, .superclass own y.cls, .instanceMethod y, .initialized y.cls] : List Cond), w ∈ lw_all := by
  intro w hw
  simp only [List.mem_cons, List.not_mem_nil, or_false] at hw
  rcases hw with e | e | e | e | e
  · rw [e]; exact h1
  · rw [e]; exact h2
  · rw [e]; exact h3
  · rw [e]; exact h4
  · rw [e]; exact h5
theorem z_un {own C owner : String} {idx : Nat} {x y : MethodName} (h1 : Cond.methodLink own idx x ∈ lw_all) (h2 : Cond.sameMethod x.cls owner x.name x.desc ∈ lw_all) (h3 : Cond.selects C x y ∈ lw_all) (h4 : Cond.instanceMethod y ∈ lw_all) (h5 : Cond.initialized y.cls ∈ lw_all) : ∀ w ∈ ([.methodLink own idx x, .sameMethod x.cls owner x.name x.desc, .selects C x y, .instanceMethod y, .initialized y.cls] : List Cond), w ∈ lw_all := by
  intro w hw
  simp only [List.mem_cons, List.not_mem_nil, or_false] at hw
  rcases hw with e | e | e | e | e
  · rw [e]; exact h1
  · rw [e]; exact h2
  · rw [e]; exact h3
  · rw [e]; exact h4
  · rw [e]; exact h5
theorem z_ov {own C owner : String} {idx : Nat} {x y : MethodName} (h1 : Cond.methodLink own idx x ∈ lw_all) (h2 : Cond.sameMethod x.cls owner x.name x.desc ∈ lw_all) (h6 : Cond.instanceMethod ⟨owner, x.name, x.desc⟩ ∈ lw_all) (h3 : Cond.selects C x y ∈ lw_all) (h4 : Cond.instanceMethod y ∈ lw_all) (h5 : Cond.initialized y.cls ∈ lw_all) : ∀ w ∈ ([.methodLink own idx x, .sameMethod x.cls owner x.name x.desc, .instanceMethod ⟨owner, x.name, x.desc⟩, .selects C x y, .instanceMethod y, .initialized y.cls] : List Cond), w ∈ lw_all := by
  intro w hw
  simp only [List.mem_cons, List.not_mem_nil, or_false] at hw
  rcases hw with e | e | e | e | e | e
  · rw [e]; exact h1
  · rw [e]; exact h2
  · rw [e]; exact h6
  · rw [e]; exact h3
  · rw [e]; exact h4
  · rw [e]; exact h5
theorem z_if {own C : String} {idx : Nat} {x y : MethodName} (h1 : Cond.methodLink own idx x ∈ lw_all) (h3 : Cond.selects C x y ∈ lw_all) (h4 : Cond.instanceMethod y ∈ lw_all) (h5 : Cond.initialized y.cls ∈ lw_all) : ∀ w ∈ ([.methodLink own idx x, .selects C x y, .instanceMethod y, .initialized y.cls] : List Cond), w ∈ lw_all := by
  intro w hw
  simp only [List.mem_cons, List.not_mem_nil, or_false] at hw
  rcases hw with e | e | e | e
  · rw [e]; exact h1
  · rw [e]; exact h3
  · rw [e]; exact h4
  · rw [e]; exact h5
/-- numbers -/
theorem z_or (a b : Nat) : nI a ||| nI b = nI (a ||| b) := by
  apply Int32.toBitVec_inj.1
  show BitVec.ofNat 32 a ||| BitVec.ofNat 32 b = BitVec.ofNat 32 (a ||| b)
  apply BitVec.eq_of_getLsbD_eq
  intro i hi
  simp [hi]
theorem z_or_pos {a b c : Nat} (ha : a < 2 ^ 30) (hb : b < 2 ^ 30) (hc : c < 2 ^ 30) : ¬ (nI a ||| nI b) ||| nI c < 0 := by
  rw [z_or, z_or]
  have h := Nat.or_lt_two_pow (n := 30) (Nat.or_lt_two_pow (n := 30) ha hb) hc
  exact nI_pos (by omega)
theorem z_sle {a b : Nat} (h : a ≤ b) (hb : b < 2 ^ 30) : nI a - nI b ≤ 0 := by
  rw [Int32.le_iff_toInt_le, pk_sub_toInt (by omega) hb, Int32.toInt_zero]
  omega
/-- the char array holds the letters t -/
def zCh (t : Nat → Nat) (n : Nat) (a : Nat → Int32) : Prop := ∀ j, j < n → t j < 256 ∧ a j = nI (t j)
theorem z_upd_lt {P : Nat → Int32 → Prop} {f : Nat → Int32} {i : Nat} {x : Int32} (h : ∀ j, j < i → P j (f j)) (hx : P i x) : ∀ j, j < i + 1 → P j (upd f i x j) := by
  intro j hj
  by_cases e : j = i
  · rw [e, pk_us]; exact hx
  · rw [pk_un e]; exact h j (by omega)
theorem z_upd_all {P : Nat → Int32 → Prop} {f : Nat → Int32} {i n : Nat} {x : Int32} (h : ∀ j, j < n → j ≠ i → P j (f j)) (hx : P i x) : ∀ j, j < n → P j (upd f i x j) := by
  intro j hj
  by_cases e : j = i
  · rw [e, pk_us]; exact hx
  · rw [pk_un e]; exact h j hj e
theorem z_latfit {t : Nat → Nat} {n : Nat} {a : Nat → Int32} (h : sb_Lat t n a) {j : Nat} (hj : j < n) : fits .byte (.int (a j)) = true := by
  rw [(h j hj).2]
  exact sb_fitB _
section ZCOPY
variable {p : Program} {l : Launch} {e : Env} {R : Room} {s : State} {m : MethodId} {args : Array Value} {below : List Frame} {meth : Method} {c : Code} {H : Heap} {locs : List Loc} {cells slots : Nat} {Q : State → Prop}
variable {cc : ByteArray} {pc : Nat} {ls : Array Slot} {rest : List Value} {D : va_G} {cl : List vw_C} {A : Nat → Prop} {a : Nat} {tys : List (ClassId × FieldType)} {ws : va_W} {H0 : Heap} {G : Nat → Nat}
/-- System.arraycopy of n bytes, from 0 to o -/
theorem z_copyb {own : String} {index : Nat} (hx : p.tables.exec = Jvm.exec) (hb : c.code = cc) (hml : c.maxLocals = ls.size) (hown : s.vm.findClass own = some m.cls) (hlink : (Cond.methodLink own index arraycopyName).before args s = true) (hnat : (Cond.native arraycopyName).before args s = true) (hstat : (Cond.static arraycopyName).before args s = true) (hini : (Cond.initialized "java/lang/System").before args s = true)
    (hK : va_K D cl (zTy G) s) (hP : va_P D cl ws H) (hD : va_D A ws) (hS : va_S A H0 H locs) (q0 q1 : Nat) {a0 n0 n1 o n : Nat} {f g : Nat → Int32} {t : Nat → Nat} (ha0 : ws[q0]? = some (a0, .inl (G 2, n0, .inl f))) (ha1 : ws[q1]? = some (a, .inl (G 2, n1, .inl g))) (h4 : n ≤ n0) (h5 : o + n ≤ n1) (hn : n1 < 2 ^ 30) (hfit : sb_Lat t n f)
    (hframes : 1 ≤ R.frames) (hlocals : (rest.map fun v => v.category).sum + (nativeFrameWords "java/lang/System" "arraycopy" 5 + 11) ≤ R.locals) (hdg : decode cc pc = .ok (.invokestatic index, 3))
    (kk : ∀ (H1 : Heap) (locs1 : List Loc), va_P D cl (ws.set q1 (a, .inl (G 2, n1, .inl (va_cpy f g 0 o n)))) H1 → va_D A (ws.set q1 (a, .inl (G 2, n1, .inl (va_cpy f g 0 o n)))) → va_S A H0 H1 locs1 → W p l e R s m args below meth c H1 locs1 cells slots Q (F0 m (pc + 3) ls rest)) : W p l e R s m args below meth c H locs cells slots Q (F0 m pc ls (.int (nI n) :: .int (nI o) :: .ref a :: .int (nI 0) :: .ref a0 :: rest)) := by
  have e0 : (nI 0).toNatClampNeg = 0 := nI_clamp (by omega)
  have eo : (nI o).toNatClampNeg = o := nI_clamp (by omega)
  have en : (nI n).toNatClampNeg = n := nI_clamp (by omega)
  refine va_copyi (ty := .byte) hx hb hml hown hlink hnat hstat hini hK hP hD hS q0 q1 2 2 ha0 ha1 rfl rfl rfl (nI_pos (by omega)) (nI_pos (by omega)) (nI_pos (by omega)) (by rw [e0, en]; omega) (by rw [eo, en]; exact h5) (fun i hi => ?_) hframes hlocals hdg (fun H1 locs1 hP1 hD1 hS1 => ?_)
  · rw [en] at hi
    rw [e0, Nat.zero_add]
    exact z_latfit hfit hi
  · rw [e0, eo, en] at hP1 hD1
    exact kk H1 locs1 hP1 hD1 hS1
end ZCOPY
theorem z_cpy_lat {t0 t : Nat → Nat} {o n : Nat} {f g : Nat → Int32} (h0 : sb_Lat t0 o g) (h : sb_Lat t n f) : sb_Lat (sb_cat t0 o t) (o + n) (va_cpy f g 0 o n) := by
  refine sb_latPut h0 (fun j hj => pk_cpy_out (Or.inl hj)) (fun i hi => ⟨(h i hi).1, ?_⟩)
  rw [pk_cpy_in (by omega) (by omega), show 0 + (o + i - o) = i by omega]
  exact (h i hi).2
theorem sb_lat_congr {t t' : Nat → Nat} {n : Nat} {a : Nat → Int32} (h : sb_Lat t n a) (e : ∀ j, j < n → t' j = t j) : sb_Lat t' n a := fun j hj => by
  rw [e j hj]
  exact h j hj
end
section
/-! THE JDK's METHODS that are reached, Latin-1 alone: bounds, String, StringBuilder. One contract a method. -/
set_option maxHeartbeats 4000000 in
set_option maxRecDepth 100000 in
/-- checkFromIndexSize: within bounds -/
theorem g_J1_cfisN (l : Launch) (D : va_G) (G : Nat → Nat) {o n L : Nat} (h : o + n ≤ L) (hL : L < 2 ^ 30) : zGet l yJ1_checkFromIndexSize cJ1_checkFromIndexSize 4 (Option.some Jvm.ClassFile.FieldType.int) ({ frames := 0, cells := 0, slots := 0, locals := 0 } : Room) D G [.int (nI o), .int (nI n), .int (nI L), .null] [] (.int (nI o)) := by
  refine z_gmet (by decide) (Nat.le_of_ble_eq_true rfl) ?_
  intro p e s m below meth c ls hx hb hr hml hown hlocks hts hK hP hS hG hl
  have hown : s.vm.findClass RJ1 = some m.cls := hown
  have hP : va_P D zCl [] s.heap := hP
  have hl : lv_has ls 4 [(0, .int (nI o)), (1, .int (nI n)), (2, .int (nI L)), (3, .null)] := hl
  refine lv_iload_n hx hb dJ1_checkFromIndexSize_0 rfl (lv_at hl 2 rfl) ?_
  refine lv_iload_n hx hb dJ1_checkFromIndexSize_1 rfl (lv_at hl 0 rfl) ?_
  refine lv_ior hx hb dJ1_checkFromIndexSize_2 ?_
  refine lv_iload_n hx hb dJ1_checkFromIndexSize_3 rfl (lv_at hl 1 rfl) ?_
  refine lv_ior hx hb dJ1_checkFromIndexSize_4 ?_
  refine lv_if_lt (tgt := 15) hx hb dJ1_checkFromIndexSize_5 (by decide) (fun c9 => absurd c9 (z_or_pos (by omega) (by omega) (by omega))) (fun _ => ?_)
  refine lv_iload_n hx hb dJ1_checkFromIndexSize_8 rfl (lv_at hl 1 rfl) ?_
  refine lv_iload_n hx hb dJ1_checkFromIndexSize_9 rfl (lv_at hl 2 rfl) ?_
  refine lv_iload_n hx hb dJ1_checkFromIndexSize_10 rfl (lv_at hl 0 rfl) ?_
  refine z_isub hx hb (by omega) dJ1_checkFromIndexSize_11 ?_
  refine lv_icmp_le (tgt := 23) hx hb dJ1_checkFromIndexSize_12 (by decide) (fun _ => ?_) (fun c9 => absurd (nI_le (by omega) (by omega)) c9)
  refine lv_iload_n hx hb dJ1_checkFromIndexSize_23 rfl (lv_at hl 0 rfl) ?_
  exact z_gret hx hb hr (rfl) hlocks dJ1_checkFromIndexSize_24
set_option maxHeartbeats 4000000 in
set_option maxRecDepth 100000 in
/-- checkFromIndexSize: within bounds -/
theorem g_J1_cfisR (l : Launch) (D : va_G) (G : Nat → Nat) {o n L : Nat} (h : o + n ≤ L) (hL : L < 2 ^ 30) (t : Nat) : zGet l yJ1_checkFromIndexSize cJ1_checkFromIndexSize 4 (Option.some Jvm.ClassFile.FieldType.int) ({ frames := 0, cells := 0, slots := 0, locals := 0 } : Room) D G [.int (nI o), .int (nI n), .int (nI L), .ref t] [] (.int (nI o)) := by
  refine z_gmet (by decide) (Nat.le_of_ble_eq_true rfl) ?_
  intro p e s m below meth c ls hx hb hr hml hown hlocks hts hK hP hS hG hl
  have hown : s.vm.findClass RJ1 = some m.cls := hown
  have hP : va_P D zCl [] s.heap := hP
  have hl : lv_has ls 4 [(0, .int (nI o)), (1, .int (nI n)), (2, .int (nI L)), (3, .ref t)] := hl
  refine lv_iload_n hx hb dJ1_checkFromIndexSize_0 rfl (lv_at hl 2 rfl) ?_
  refine lv_iload_n hx hb dJ1_checkFromIndexSize_1 rfl (lv_at hl 0 rfl) ?_
  refine lv_ior hx hb dJ1_checkFromIndexSize_2 ?_
  refine lv_iload_n hx hb dJ1_checkFromIndexSize_3 rfl (lv_at hl 1 rfl) ?_
  refine lv_ior hx hb dJ1_checkFromIndexSize_4 ?_
  refine lv_if_lt (tgt := 15) hx hb dJ1_checkFromIndexSize_5 (by decide) (fun c9 => absurd c9 (z_or_pos (by omega) (by omega) (by omega))) (fun _ => ?_)
  refine lv_iload_n hx hb dJ1_checkFromIndexSize_8 rfl (lv_at hl 1 rfl) ?_
  refine lv_iload_n hx hb dJ1_checkFromIndexSize_9 rfl (lv_at hl 2 rfl) ?_
  refine lv_iload_n hx hb dJ1_checkFromIndexSize_10 rfl (lv_at hl 0 rfl) ?_
  refine z_isub hx hb (by omega) dJ1_checkFromIndexSize_11 ?_
  refine lv_icmp_le (tgt := 23) hx hb dJ1_checkFromIndexSize_12 (by decide) (fun _ => ?_) (fun c9 => absurd (nI_le (by omega) (by omega)) c9)
  refine lv_iload_n hx hb dJ1_checkFromIndexSize_23 rfl (lv_at hl 0 rfl) ?_
  exact z_gret hx hb hr (rfl) hlocks dJ1_checkFromIndexSize_24
set_option maxHeartbeats 4000000 in
set_option maxRecDepth 100000 in
theorem g_J1_cidxN (l : Launch) (D : va_G) (G : Nat → Nat) {i L : Nat} (h : i < L) (hL : L < 2 ^ 30) : zGet l yJ1_checkIndex cJ1_checkIndex 3 (Option.some Jvm.ClassFile.FieldType.int) ({ frames := 0, cells := 0, slots := 0, locals := 0 } : Room) D G [.int (nI i), .int (nI L), .null] [] (.int (nI i)) := by
  refine z_gmet (by decide) (Nat.le_of_ble_eq_true rfl) ?_
  intro p e s m below meth c ls hx hb hr hml hown hlocks hts hK hP hS hG hl
  have hown : s.vm.findClass RJ1 = some m.cls := hown
  have hP : va_P D zCl [] s.heap := hP
  have hl : lv_has ls 3 [(0, .int (nI i)), (1, .int (nI L)), (2, .null)] := hl
  refine lv_iload_n hx hb dJ1_checkIndex_0 rfl (lv_at hl 0 rfl) ?_
  refine lv_if_lt (tgt := 9) hx hb dJ1_checkIndex_1 (by decide) (fun c9 => absurd c9 (nI_pos (by omega))) (fun _ => ?_)
  refine lv_iload_n hx hb dJ1_checkIndex_4 rfl (lv_at hl 0 rfl) ?_
  refine lv_iload_n hx hb dJ1_checkIndex_5 rfl (lv_at hl 1 rfl) ?_
  refine lv_icmp_lt (tgt := 16) hx hb dJ1_checkIndex_6 (by decide) (fun _ => ?_) (fun c9 => absurd (nI_lt (by omega) (by omega)) c9)
  refine lv_iload_n hx hb dJ1_checkIndex_16 rfl (lv_at hl 0 rfl) ?_
  exact z_gret hx hb hr (rfl) hlocks dJ1_checkIndex_17
set_option maxHeartbeats 4000000 in
set_option maxRecDepth 100000 in
theorem g_J1_cidxR (l : Launch) (D : va_G) (G : Nat → Nat) {i L : Nat} (h : i < L) (hL : L < 2 ^ 30) (t : Nat) : zGet l yJ1_checkIndex cJ1_checkIndex 3 (Option.some Jvm.ClassFile.FieldType.int) ({ frames := 0, cells := 0, slots := 0, locals := 0 } : Room) D G [.int (nI i), .int (nI L), .ref t] [] (.int (nI i)) := by
  refine z_gmet (by decide) (Nat.le_of_ble_eq_true rfl) ?_
  intro p e s m below meth c ls hx hb hr hml hown hlocks hts hK hP hS hG hl
  have hown : s.vm.findClass RJ1 = some m.cls := hown
  have hP : va_P D zCl [] s.heap := hP
  have hl : lv_has ls 3 [(0, .int (nI i)), (1, .int (nI L)), (2, .ref t)] := hl
  refine lv_iload_n hx hb dJ1_checkIndex_0 rfl (lv_at hl 0 rfl) ?_
  refine lv_if_lt (tgt := 9) hx hb dJ1_checkIndex_1 (by decide) (fun c9 => absurd c9 (nI_pos (by omega))) (fun _ => ?_)
  refine lv_iload_n hx hb dJ1_checkIndex_4 rfl (lv_at hl 0 rfl) ?_
  refine lv_iload_n hx hb dJ1_checkIndex_5 rfl (lv_at hl 1 rfl) ?_
  refine lv_icmp_lt (tgt := 16) hx hb dJ1_checkIndex_6 (by decide) (fun _ => ?_) (fun c9 => absurd (nI_lt (by omega) (by omega)) c9)
  refine lv_iload_n hx hb dJ1_checkIndex_16 rfl (lv_at hl 0 rfl) ?_
  exact z_gret hx hb hr (rfl) hlocks dJ1_checkIndex_17
set_option maxHeartbeats 4000000 in
set_option maxRecDepth 100000 in
theorem g_J0_cboc (l : Launch) (D : va_G) (G : Nat → Nat) {o n L : Nat} (h : o + n ≤ L) (hL : L < 2 ^ 30) : zGet l yJ0_checkBoundsOffCount cJ0_checkBoundsOffCount 3 (Option.some Jvm.ClassFile.FieldType.int) ({ frames := 1, cells := 0, slots := 0, locals := 23 } : Room) D G [.int (nI o), .int (nI n), .int (nI L)] [] (.int (nI o)) := by
  refine z_gmet (by decide) (Nat.le_of_ble_eq_true rfl) ?_
  intro p e s m below meth c ls hx hb hr hml hown hlocks hts hK hP hS hG hl
  have hown : s.vm.findClass RJ0 = some m.cls := hown
  have hP : va_P D zCl [] s.heap := hP
  have hl : lv_has ls 3 [(0, .int (nI o)), (1, .int (nI n)), (2, .int (nI L))] := hl
  refine lv_iload_n hx hb dJ0_checkBoundsOffCount_0 rfl (lv_at hl 0 rfl) ?_
  refine lv_iload_n hx hb dJ0_checkBoundsOffCount_1 rfl (lv_at hl 1 rfl) ?_
  refine lv_iload_n hx hb dJ0_checkBoundsOffCount_2 rfl (lv_at hl 2 rfl) ?_
  rcases hG.sioobe with hz | ⟨tz, hz⟩
  · refine va_gets hx hb hz hS hown (hts _ q64) (fun _ h9 => h9) dJ0_checkBoundsOffCount_3 ?_
    refine z_getc (va_runS (As := [.int (nI o), .int (nI n), .int (nI L), .null]) (rest := []) ⟨hx, hb, hml, hown, hts⟩ (g_J1_cfisN l D G h hL) (va_cwS 4 hts (lw_S q66 q67 q5 q68) rfl rfl rfl (by decide +kernel) ⟨Nat.le_of_ble_eq_true rfl, Nat.le_of_ble_eq_true rfl⟩) (z_preSg hK hP hG hS [] rfl) rfl rfl hl.1 rfl (lv_room (Nat.le_of_ble_eq_true rfl)) dJ0_checkBoundsOffCount_6 ⟨Nat.le_of_ble_eq_true rfl, Nat.le_of_ble_eq_true rfl⟩) ?_
    exact z_gret hx hb hr (rfl) hlocks dJ0_checkBoundsOffCount_9
  · refine va_gets hx hb hz hS hown (hts _ q64) (fun _ h9 => h9) dJ0_checkBoundsOffCount_3 ?_
    refine z_getc (va_runS (As := [.int (nI o), .int (nI n), .int (nI L), .ref tz]) (rest := []) ⟨hx, hb, hml, hown, hts⟩ (g_J1_cfisR l D G h hL tz) (va_cwS 4 hts (lw_S q66 q67 q5 q68) rfl rfl rfl (by decide +kernel) ⟨Nat.le_of_ble_eq_true rfl, Nat.le_of_ble_eq_true rfl⟩) (z_preSg hK hP hG hS [] rfl) rfl rfl hl.1 rfl (lv_room (Nat.le_of_ble_eq_true rfl)) dJ0_checkBoundsOffCount_6 ⟨Nat.le_of_ble_eq_true rfl, Nat.le_of_ble_eq_true rfl⟩) ?_
    exact z_gret hx hb hr (rfl) hlocks dJ0_checkBoundsOffCount_9
set_option maxHeartbeats 4000000 in
set_option maxRecDepth 100000 in
theorem g_J0_rangeCheck (l : Launch) (D : va_G) (G : Nat → Nat) {a o n L : Nat} {f : Nat → Int32} (h : o + n ≤ L) (hL : L < 2 ^ 30) : zGet l yJ0_rangeCheck cJ0_rangeCheck 3 (Option.some (Jvm.ClassFile.FieldType.object "java/lang/Void")) ({ frames := 2, cells := 0, slots := 0, locals := 45 } : Room) D G [.ref a, .int (nI o), .int (nI n)] [(a, .inl (G 1, L, .inl f))] (.null) := by
  refine z_gmet (by decide) (Nat.le_of_ble_eq_true rfl) ?_
  intro p e s m below meth c ls hx hb hr hml hown hlocks hts hK hP hS hG hl
  have hown : s.vm.findClass RJ0 = some m.cls := hown
  have hP : va_P D zCl [(a, .inl (G 1, L, .inl f))] s.heap := hP
  have hl : lv_has ls 3 [(0, .ref a), (1, .int (nI o)), (2, .int (nI n))] := hl
  refine lv_iload_n hx hb dJ0_rangeCheck_0 rfl (lv_at hl 1 rfl) ?_
  refine lv_iload_n hx hb dJ0_rangeCheck_1 rfl (lv_at hl 2 rfl) ?_
  refine lv_aload_n hx hb dJ0_rangeCheck_2 rfl (lv_at hl 0 rfl) ?_
  refine va_alen (v := nI L) hx hb hK hP 0 1 rfl rfl rfl dJ0_rangeCheck_3 ?_
  refine z_getc (va_runS (As := [.int (nI o), .int (nI n), .int (nI L)]) (rest := []) ⟨hx, hb, hml, hown, hts⟩ (g_J0_cboc l D G h hL) (va_cwS 3 hts (lw_S q61 q62 q4 q63) rfl rfl rfl (by decide +kernel) ⟨Nat.le_of_ble_eq_true rfl, Nat.le_of_ble_eq_true rfl⟩) (z_preSg hK hP hG hS [] rfl) rfl rfl hl.1 rfl (lv_room (Nat.le_of_ble_eq_true rfl)) dJ0_rangeCheck_4 ⟨Nat.le_of_ble_eq_true rfl, Nat.le_of_ble_eq_true rfl⟩) ?_
  refine lv_pop hx hb dJ0_rangeCheck_7 rfl ?_
  refine lv_null hx hb dJ0_rangeCheck_8 ?_
  exact z_garet hx hb hr (Or.inl ⟨_, rfl⟩) (Or.inl rfl) hlocks dJ0_rangeCheck_9
set_option maxHeartbeats 4000000 in
set_option maxRecDepth 100000 in
/-- compress: n letters, all Latin-1 -/
theorem m_J2_compress5 (l : Launch) (D : va_G) (G : Nat → Nat) {a b n L : Nat} {f g : Nat → Int32} {t : Nat → Nat} (h : n ≤ L) (hL : L < 2 ^ 30) (hf : zCh t n f) : zMet l yJ2_compress_2 cJ2_compress_2 7 (Option.some Jvm.ClassFile.FieldType.int) ({ frames := 0, cells := 0, slots := 0, locals := 0 } : Room) D G [.ref a, .int (nI 0), .ref b, .int (nI 0), .int (nI n)] [(a, .inl (G 1, L, .inl f)), (b, .inl (G 2, n, .inl g))] (zQi D (fun (r : Int32) (g1 : Nat → Int32) => r = nI n ∧ sb_Lat t n g1) (fun g1 => [(a, .inl (G 1, L, .inl f)), (b, .inl (G 2, n, .inl g1))])) 0 0 := by
  refine z_met (by decide) (Nat.le_of_ble_eq_true rfl) ?_
  intro p e s m below meth c A ls hx hb hr hml hown hlocks hin hts hK hP hD hS hA hG hl
  have hD : va_D A [(a, .inl (G 1, L, .inl f)), (b, .inl (G 2, n, .inl g))] := hD
  have hown : s.vm.findClass RJ2 = some m.cls := hown
  have hP : va_P D zCl [(a, .inl (G 1, L, .inl f)), (b, .inl (G 2, n, .inl g))] s.heap := hP
  have hl : lv_has ls 7 [(0, .ref a), (1, .int (nI 0)), (2, .ref b), (3, .int (nI 0)), (4, .int (nI n))] := hl
  refine lv_iconst (v := nI 0) hx hb dJ2_compress_2_0 (by decide) ?_
  refine lv_istore (lv' := [(5, .int (nI 0)), (0, .ref a), (1, .int (nI 0)), (2, .ref b), (3, .int (nI 0)), (4, .int (nI n))]) hx hb dJ2_compress_2_1 hl (by decide) rfl (fun ls hl => ?_)
  have hl := lv_sub (l' := [(5, .int (nI 0)), (3, .int (nI 0)), (1, .int (nI 0)), (0, .ref a), (2, .ref b), (4, .int (nI n))]) hl [0, 4, 2, 1, 3, 5] rfl
  refine z_loop (cf := fun _ => 0) (sf := fun _ => 0) (I := fun k9 H locs ls => ∃ (i : Nat) (g : Nat → Int32), i + k9 = n ∧ sb_Lat t i g ∧ va_P D zCl [(a, .inl (G 1, L, .inl f)), (b, .inl (G 2, n, .inl g))] H ∧ va_D A [(a, .inl (G 1, L, .inl f)), (b, .inl (G 2, n, .inl g))] ∧ va_S A s.heap H locs ∧ lv_has ls 7 [(5, .int (nI i)), (3, .int (nI i)), (1, .int (nI i)), (0, .ref a), (2, .ref b), (4, .int (nI n))]) (N := n) ⟨0, g, by omega, (fun j hj => by omega), hP, hD, hS, hl⟩ ?_ ?_
  · intro H locs ls hI
    obtain ⟨i, g, hi, hg, hP, hD, hS, hl⟩ := hI
    obtain rfl : i = n := by omega
    refine lv_iload hx hb dJ2_compress_2_3 (lv_at hl 0 rfl) ?_
    refine lv_iload hx hb dJ2_compress_2_5 (lv_at hl 5 rfl) ?_
    refine lv_icmp_ge (tgt := 44) hx hb dJ2_compress_2_7 (by decide) (fun _ => ?_) (fun c9 => absurd (nI_le (Nat.le_refl _) (by omega)) c9)
    refine lv_iload hx hb dJ2_compress_2_44 (lv_at hl 5 rfl) ?_
    have hP := hP.sub (ws' := [(a, .inl (G 1, L, .inl f)), (b, .inl (G 2, i, .inl g))]) [0, 1] rfl
    have hD := hD.sub (ws' := [(a, .inl (G 1, L, .inl f)), (b, .inl (G 2, i, .inl g))]) [0, 1] (by decide) rfl
    exact z_iret hx hb hr (rfl) hlocks g (⟨rfl, hg⟩) hP hD hS dJ2_compress_2_46
  · intro k9 ih H locs ls hI
    obtain ⟨i, g, hi, hg, hP, hD, hS, hl⟩ := hI
    have hfi := hf i (by omega)
    refine lv_iload hx hb dJ2_compress_2_3 (lv_at hl 0 rfl) ?_
    refine lv_iload hx hb dJ2_compress_2_5 (lv_at hl 5 rfl) ?_
    refine lv_icmp_ge (tgt := 44) hx hb dJ2_compress_2_7 (by decide) (fun c9 => absurd c9 (nI_ge (by omega) (by omega))) (fun _ => ?_)
    refine lv_aload_n hx hb dJ2_compress_2_10 rfl (lv_at hl 3 rfl) ?_
    refine lv_iload_n hx hb dJ2_compress_2_11 rfl (lv_at hl 2 rfl) ?_
    refine z_cald (v := nI (t i)) hx hb hK hP 0 1 rfl rfl (by omega) (by omega) hfi.2 dJ2_compress_2_12 ?_
    refine lv_istore (lv' := [(6, .int (nI (t i))), (5, .int (nI i)), (3, .int (nI i)), (1, .int (nI i)), (0, .ref a), (2, .ref b), (4, .int (nI n))]) hx hb dJ2_compress_2_13 hl (by decide) rfl (fun ls hl => ?_)
    refine lv_iload hx hb dJ2_compress_2_15 (lv_at hl 0 rfl) ?_
    refine lv_sipush (v := nI 255) hx hb dJ2_compress_2_17 (by decide) ?_
    refine lv_icmp_le (tgt := 26) hx hb dJ2_compress_2_20 (by decide) (fun _ => ?_) (fun c9 => absurd (nI_le (by omega) (by omega)) c9)
    refine lv_aload_n hx hb dJ2_compress_2_26 rfl (lv_at hl 5 rfl) ?_
    refine lv_iload_n hx hb dJ2_compress_2_27 rfl (lv_at hl 2 rfl) ?_
    refine lv_iload hx hb dJ2_compress_2_28 (lv_at hl 0 rfl) ?_
    refine z_i2b hx hb dJ2_compress_2_30 ?_
    refine z_bast hx hb hK hP hD hS 1 2 rfl rfl (by omega) (by omega) dJ2_compress_2_31 (fun H locs hP hD hS => ?_)
    generalize eg1 : upd g i (sb_b (t i)) = g1 at hP hD
    have hP : va_P D zCl [(a, .inl (G 1, L, .inl f)), (b, .inl (G 2, n, .inl g1))] H := hP
    have hD : va_D A [(a, .inl (G 1, L, .inl f)), (b, .inl (G 2, n, .inl g1))] := hD
    refine lv_iinc (v := (nI (i + 1))) (lv' := [(1, .int (nI (i + 1))), (6, .int (nI (t i))), (5, .int (nI i)), (3, .int (nI i)), (0, .ref a), (2, .ref b), (4, .int (nI n))]) hx hb dJ2_compress_2_32 hl (k := 3) rfl (nI_add i 1) (by decide) rfl (fun ls hl => ?_)
    refine lv_iinc (v := (nI (i + 1))) (lv' := [(3, .int (nI (i + 1))), (1, .int (nI (i + 1))), (6, .int (nI (t i))), (5, .int (nI i)), (0, .ref a), (2, .ref b), (4, .int (nI n))]) hx hb dJ2_compress_2_35 hl (k := 3) rfl (nI_add i 1) (by decide) rfl (fun ls hl => ?_)
    refine lv_iinc (v := (nI (i + 1))) (lv' := [(5, .int (nI (i + 1))), (3, .int (nI (i + 1))), (1, .int (nI (i + 1))), (6, .int (nI (t i))), (0, .ref a), (2, .ref b), (4, .int (nI n))]) hx hb dJ2_compress_2_38 hl (k := 3) rfl (nI_add i 1) (by decide) rfl (fun ls hl => ?_)
    refine lv_goto (tgt := 3) hx hb dJ2_compress_2_41 (by decide) ?_
    refine ih H locs ls ⟨i + 1, g1, by omega, ?_, hP, hD, hS, lv_sub hl [0, 1, 2, 4, 5, 6] rfl⟩
    rw [← eg1]
    exact z_upd_lt (P := fun j x => t j < 256 ∧ x = sb_b (t j)) hg ⟨hfi.1, rfl⟩
set_option maxHeartbeats 4000000 in
set_option maxRecDepth 100000 in
theorem m_J2_compress3 (l : Launch) (D : va_G) (G : Nat → Nat) {a n L : Nat} {f : Nat → Int32} {t : Nat → Nat} (h : n ≤ L) (hL : L < 2 ^ 30) (hn : n ≤ 98) (hf : zCh t n f) : zMet l yJ2_compress cJ2_compress 6 (Option.some (Jvm.ClassFile.FieldType.array Jvm.ClassFile.FieldType.byte)) ({ frames := 1, cells := 1, slots := 98, locals := 26 } : Room) D G [.ref a, .int (nI 0), .int (nI n)] [(a, .inl (G 1, L, .inl f))] (zQr D (fun (g : Nat → Int32) => sb_Lat t n g) (fun g b => [(a, .inl (G 1, L, .inl f)), (b, .inl (G 2, n, .inl g))])) 1 98 := by
  refine z_met (by decide) (Nat.le_of_ble_eq_true rfl) ?_
  intro p e s m below meth c A ls hx hb hr hml hown hlocks hin hts hK hP hD hS hA hG hl
  have hD : va_D A [(a, .inl (G 1, L, .inl f))] := hD
  have hown : s.vm.findClass RJ2 = some m.cls := hown
  have hP : va_P D zCl [(a, .inl (G 1, L, .inl f))] s.heap := hP
  have hl : lv_has ls 6 [(0, .ref a), (1, .int (nI 0)), (2, .int (nI n))] := hl
  refine lv_iload_n hx hb dJ2_compress_0 rfl (lv_at hl 2 rfl) ?_
  refine z_newb hx hb (hts _ q37) hK hP hD hS hA (by omega) (Nat.le_of_ble_eq_true rfl) (show 0 + n ≤ 98 by omega) dJ2_compress_1 (fun b H hP hD hS => ?_)
  have hP : va_P D zCl [(a, .inl (G 1, L, .inl f)), (b, .inl (G 2, n, .inl (fun _ => nI 0)))] H := hP
  have hD : va_D A [(a, .inl (G 1, L, .inl f)), (b, .inl (G 2, n, .inl (fun _ => nI 0)))] := hD
  refine W.widen (k := 1) (n := 98) (by omega) (by omega) ?_
  refine lv_astore_n (lv' := [(3, .ref b), (0, .ref a), (1, .int (nI 0)), (2, .int (nI n))]) hx hb dJ2_compress_3 rfl hl (by decide) rfl (fun ls hl => ?_)
  refine lv_aload_n hx hb dJ2_compress_4 rfl (lv_at hl 1 rfl) ?_
  refine lv_iload_n hx hb dJ2_compress_5 rfl (lv_at hl 2 rfl) ?_
  refine lv_aload_n hx hb dJ2_compress_6 rfl (lv_at hl 0 rfl) ?_
  refine lv_iconst (v := nI 0) hx hb dJ2_compress_7 (by decide) ?_
  refine lv_iload_n hx hb dJ2_compress_8 rfl (lv_at hl 3 rfl) ?_
  refine z_calli (wr := []) (va_runS (As := [.ref a, .int (nI 0), .ref b, .int (nI 0), .int (nI n)]) (rest := []) ⟨hx, hb, hml, hown, hts⟩ (m_J2_compress5 l D G h hL hf H.size) (va_cwS 5 hts (lw_S q79 q80 q6 q81) rfl rfl rfl (by decide +kernel) ⟨Nat.le_of_ble_eq_true rfl, Nat.le_of_ble_eq_true rfl⟩) (z_preS hK hP hD hG hS hA [0, 1] rfl (by decide)) rfl rfl hl.1 rfl (lv_room (Nat.le_of_ble_eq_true rfl)) dJ2_compress_9 ⟨Nat.le_of_ble_eq_true rfl, Nat.le_of_ble_eq_true rfl⟩) hP hD hS hA [0, 1] [] rfl rfl (by decide) (by decide) (fun r9 g1 H locs hw hP hD hS => ?_)
  obtain ⟨rfl, hg1⟩ := hw
  have hP : va_P D zCl [(a, .inl (G 1, L, .inl f)), (b, .inl (G 2, n, .inl g1))] H := hP
  have hD : va_D A [(a, .inl (G 1, L, .inl f)), (b, .inl (G 2, n, .inl g1))] := hD
  refine lv_istore (lv' := [(4, .int (nI n)), (3, .ref b), (0, .ref a), (1, .int (nI 0)), (2, .int (nI n))]) hx hb dJ2_compress_12 hl (by decide) rfl (fun ls hl => ?_)
  refine lv_iload hx hb dJ2_compress_14 (lv_at hl 0 rfl) ?_
  refine lv_iload_n hx hb dJ2_compress_16 rfl (lv_at hl 4 rfl) ?_
  refine lv_icmp_eq (tgt := 57) hx hb dJ2_compress_17 (by decide) (fun _ => ?_) (fun c9 => absurd rfl c9)
  refine lv_aload_n hx hb dJ2_compress_57 rfl (lv_at hl 1 rfl) ?_
  have hP := hP.sub (ws' := [(a, .inl (G 1, L, .inl f)), (b, .inl (G 2, n, .inl g1))]) [0, 1] rfl
  have hD := hD.sub (ws' := [(a, .inl (G 1, L, .inl f)), (b, .inl (G 2, n, .inl g1))]) [0, 1] (by decide) rfl
  exact z_aret hx hb hr (Or.inr ⟨_, rfl⟩) hlocks g1 (hg1) hP hD hS dJ2_compress_58
set_option maxHeartbeats 4000000 in
set_option maxRecDepth 100000 in
theorem g_J2_coder (l : Launch) (D : va_G) (G : Nat → Nat) {b n : Nat} {g : Nat → Int32} : zGet l yJ2_coderFromArrayLen cJ2_coderFromArrayLen 2 (Option.some Jvm.ClassFile.FieldType.byte) ({ frames := 0, cells := 0, slots := 0, locals := 0 } : Room) D G [.ref b, .int (nI n)] [(b, .inl (G 2, n, .inl g))] (.int (nI 0)) := by
  refine z_gmet (by decide) (Nat.le_of_ble_eq_true rfl) ?_
  intro p e s m below meth c ls hx hb hr hml hown hlocks hts hK hP hS hG hl
  have hown : s.vm.findClass RJ2 = some m.cls := hown
  have hP : va_P D zCl [(b, .inl (G 2, n, .inl g))] s.heap := hP
  have hl : lv_has ls 2 [(0, .ref b), (1, .int (nI n))] := hl
  refine lv_iload_n hx hb dJ2_coderFromArrayLen_0 rfl (lv_at hl 1 rfl) ?_
  refine lv_aload_n hx hb dJ2_coderFromArrayLen_1 rfl (lv_at hl 0 rfl) ?_
  refine va_alen (v := nI n) hx hb hK hP 0 2 rfl rfl rfl dJ2_coderFromArrayLen_2 ?_
  refine z_isub hx hb (Nat.le_refl _) dJ2_coderFromArrayLen_3 ?_
  rw [show (.int (nI (n - n)) : Value) = .int (nI 0) from by rw [Nat.sub_self]]
  refine lv_bipush (v := nI 31) hx hb dJ2_coderFromArrayLen_4 (by decide) ?_
  refine lv_iushr (v := nI 0) hx hb dJ2_coderFromArrayLen_6 (by decide) ?_
  refine z_i2b hx hb dJ2_coderFromArrayLen_7 ?_
  rw [show (.int (sb_b 0) : Value) = .int (nI 0) from congrArg Value.int (by decide)]
  exact z_gret hx hb hr (rfl) hlocks dJ2_coderFromArrayLen_8
set_option maxHeartbeats 4000000 in
set_option maxRecDepth 100000 in
/-- String(char[], 0, n, null) -/
theorem m_J0_init2 (l : Launch) (D : va_G) (G : Nat → Nat) {h0 a n L : Nat} {f : Nat → Int32} {t : Nat → Nat} (h : n ≤ L) (hL : L < 2 ^ 30) (h1 : 1 ≤ n) (hn : n ≤ 98) (hf : zCh t n f) : zMet l yJ0_init_2 cJ0_init_2 6 (Option.none : Option Jvm.ClassFile.FieldType) ({ frames := 2, cells := 1, slots := 98, locals := 51 } : Room) D G [.ref h0, .ref a, .int (nI 0), .int (nI n), .null] [(h0, .inr (2, [.null, .int (nI 0), .int (nI 0), .int (nI 0)])), (a, .inl (G 1, L, .inl f))] (zQv D (fun (u : Nat × (Nat → Int32)) => sb_Lat t n u.2) (fun u => [(h0, .inr (2, [.ref u.1, .int (nI 0), .int (nI 0), .int (nI 0)])), (a, .inl (G 1, L, .inl f)), (u.1, .inl (G 2, n, .inl u.2))])) 1 98 := by
  refine z_met (by decide) (Nat.le_of_ble_eq_true rfl) ?_
  intro p e s m below meth c A ls hx hb hr hml hown hlocks hin hts hK hP hD hS hA hG hl
  have hD : va_D A [(h0, .inr (2, [.null, .int (nI 0), .int (nI 0), .int (nI 0)])), (a, .inl (G 1, L, .inl f))] := hD
  have hown : s.vm.findClass RJ0 = some m.cls := hown
  have hP : va_P D zCl [(h0, .inr (2, [.null, .int (nI 0), .int (nI 0), .int (nI 0)])), (a, .inl (G 1, L, .inl f))] s.heap := hP
  have hl : lv_has ls 6 [(0, .ref h0), (1, .ref a), (2, .int (nI 0)), (3, .int (nI n)), (4, .null)] := hl
  refine lv_aload_n hx hb dJ0_init_2_0 rfl (lv_at hl 0 rfl) ?_
  refine W.objInit hx hb hown (hts _ q72) (hts _ q26) (hts _ q27) rfl (by rw [hml]; exact hl.1) rfl dJ0_init_2_1 (Nat.le_of_ble_eq_true rfl) (Nat.le_of_ble_eq_true rfl) ?_
  refine W.eq (g2 := F0 m 4 ls []) rfl ?_
  refine lv_iload_n hx hb dJ0_init_2_4 rfl (lv_at hl 3 rfl) ?_
  refine lv_if_ne (tgt := 27) hx hb dJ0_init_2_5 (by decide) (fun _ => ?_) (fun c9 => absurd c9 (nI_ne0 (by omega) (by omega)))
  refine va_gets hx hb hG.compact hS hown (hts _ q74) (fun _ h9 => h9) dJ0_init_2_27 ?_
  refine lv_if_eq (tgt := 58) hx hb dJ0_init_2_30 (by decide) (fun c9 => absurd c9 (show ¬ nI 1 = 0 by decide)) (fun _ => ?_)
  refine lv_aload_n hx hb dJ0_init_2_33 rfl (lv_at hl 1 rfl) ?_
  refine lv_iload_n hx hb dJ0_init_2_34 rfl (lv_at hl 2 rfl) ?_
  refine lv_iload_n hx hb dJ0_init_2_35 rfl (lv_at hl 3 rfl) ?_
  refine z_callr (wr := [(h0, .inr (2, [.null, .int (nI 0), .int (nI 0), .int (nI 0)]))]) (va_runS (As := [.ref a, .int (nI 0), .int (nI n)]) (rest := []) ⟨hx, hb, hml, hown, hts⟩ (m_J2_compress3 l D G h hL hn hf s.heap.size) (va_cwS 3 hts (lw_S q76 q77 q6 q78) rfl rfl rfl (by decide +kernel) ⟨Nat.le_of_ble_eq_true rfl, Nat.le_of_ble_eq_true rfl⟩) (z_preS hK hP hD hG hS hA [1] rfl (by decide)) rfl rfl hl.1 rfl (lv_room (Nat.le_of_ble_eq_true rfl)) dJ0_init_2_36 ⟨Nat.le_of_ble_eq_true rfl, Nat.le_of_ble_eq_true rfl⟩) hP hD hS hA [1] [0] rfl rfl (by decide) (by decide) (fun g V H locs hw hP hD hS => ?_)
  have hP : va_P D zCl [(h0, .inr (2, [.null, .int (nI 0), .int (nI 0), .int (nI 0)])), (a, .inl (G 1, L, .inl f)), (V, .inl (G 2, n, .inl g))] H := hP
  have hD : va_D A [(h0, .inr (2, [.null, .int (nI 0), .int (nI 0), .int (nI 0)])), (a, .inl (G 1, L, .inl f)), (V, .inl (G 2, n, .inl g))] := hD
  have hw : sb_Lat t n g := hw
  refine lv_astore (lv' := [(5, .ref V), (0, .ref h0), (1, .ref a), (2, .int (nI 0)), (3, .int (nI n)), (4, .null)]) hx hb dJ0_init_2_39 hl (by decide) rfl (fun ls hl => ?_)
  refine lv_aload_n hx hb dJ0_init_2_41 rfl (lv_at hl 1 rfl) ?_
  refine lv_aload hx hb dJ0_init_2_42 (lv_at hl 0 rfl) ?_
  refine lv_iload_n hx hb dJ0_init_2_44 rfl (lv_at hl 4 rfl) ?_
  refine z_getc (va_runS (As := [.ref V, .int (nI n)]) (rest := [.ref h0]) ⟨hx, hb, hml, hown, hts⟩ (g_J2_coder l D G ) (va_cwS 2 hts (lw_S q114 q115 q6 q116) rfl rfl rfl (by decide +kernel) ⟨Nat.le_of_ble_eq_true rfl, Nat.le_of_ble_eq_true rfl⟩) (z_preSg hK hP hG hS [2] rfl) rfl rfl hl.1 rfl (lv_room (Nat.le_of_ble_eq_true rfl)) dJ0_init_2_45 ⟨Nat.le_of_ble_eq_true rfl, Nat.le_of_ble_eq_true rfl⟩) ?_
  refine va_putF (D := D) (ci := 2) (v := .int (nI 0)) (ty := .byte) (C := RJ0) (T := TJ0) (N := 4) hx hb hts in_J0 tyJ0 tyJ0_ok nmJ0 hown hK hP hD hS 0 rfl rfl 1 (by decide) (hts _ q119) (fun _ h9 => h9) rfl hin rfl (by decide +kernel) rfl rfl (Nat.le_of_ble_eq_true rfl) dJ0_init_2_48 (fun H locs hP hD hS => ?_)
  have hP : va_P D zCl [(h0, .inr (2, [.null, .int (nI 0), .int (nI 0), .int (nI 0)])), (a, .inl (G 1, L, .inl f)), (V, .inl (G 2, n, .inl g))] H := hP
  have hD : va_D A [(h0, .inr (2, [.null, .int (nI 0), .int (nI 0), .int (nI 0)])), (a, .inl (G 1, L, .inl f)), (V, .inl (G 2, n, .inl g))] := hD
  refine lv_aload_n hx hb dJ0_init_2_51 rfl (lv_at hl 1 rfl) ?_
  refine lv_aload hx hb dJ0_init_2_52 (lv_at hl 0 rfl) ?_
  refine va_putF (D := D) (ci := 2) (v := .ref V) (ty := .array .byte) (C := RJ0) (T := TJ0) (N := 4) hx hb hts in_J0 tyJ0 tyJ0_ok nmJ0 hown hK hP hD hS 0 rfl rfl 0 (by decide) (hts _ q118) (fun _ h9 => h9) rfl hin rfl (by decide +kernel) rfl rfl (Nat.le_of_ble_eq_true rfl) dJ0_init_2_54 (fun H locs hP hD hS => ?_)
  have hP : va_P D zCl [(h0, .inr (2, [.ref V, .int (nI 0), .int (nI 0), .int (nI 0)])), (a, .inl (G 1, L, .inl f)), (V, .inl (G 2, n, .inl g))] H := hP
  have hD : va_D A [(h0, .inr (2, [.ref V, .int (nI 0), .int (nI 0), .int (nI 0)])), (a, .inl (G 1, L, .inl f)), (V, .inl (G 2, n, .inl g))] := hD
  have hP := hP.sub (ws' := [(h0, .inr (2, [.ref V, .int (nI 0), .int (nI 0), .int (nI 0)])), (a, .inl (G 1, L, .inl f)), (V, .inl (G 2, n, .inl g))]) [0, 1, 2] rfl
  have hD := hD.sub (ws' := [(h0, .inr (2, [.ref V, .int (nI 0), .int (nI 0), .int (nI 0)])), (a, .inl (G 1, L, .inl f)), (V, .inl (G 2, n, .inl g))]) [0, 1, 2] (by decide) rfl
  exact z_vret hx hb hr hlocks (V, g) (hw) hP hD hS dJ0_init_2_57
set_option maxHeartbeats 4000000 in
set_option maxRecDepth 100000 in
/-- String(char[], 0, n) -/
theorem m_J0_init1 (l : Launch) (D : va_G) (G : Nat → Nat) {h0 a n L : Nat} {f : Nat → Int32} {t : Nat → Nat} (h : n ≤ L) (hL : L < 2 ^ 30) (h1 : 1 ≤ n) (hn : n ≤ 98) (hf : zCh t n f) : zMet l yJ0_init cJ0_init 4 (Option.none : Option Jvm.ClassFile.FieldType) ({ frames := 3, cells := 1, slots := 98, locals := 76 } : Room) D G [.ref h0, .ref a, .int (nI 0), .int (nI n)] [(h0, .inr (2, [.null, .int (nI 0), .int (nI 0), .int (nI 0)])), (a, .inl (G 1, L, .inl f))] (zQv D (fun (u : Nat × (Nat → Int32)) => sb_Lat t n u.2) (fun u => [(h0, .inr (2, [.ref u.1, .int (nI 0), .int (nI 0), .int (nI 0)])), (a, .inl (G 1, L, .inl f)), (u.1, .inl (G 2, n, .inl u.2))])) 1 98 := by
  refine z_met (by decide) (Nat.le_of_ble_eq_true rfl) ?_
  intro p e s m below meth c A ls hx hb hr hml hown hlocks hin hts hK hP hD hS hA hG hl
  have hD : va_D A [(h0, .inr (2, [.null, .int (nI 0), .int (nI 0), .int (nI 0)])), (a, .inl (G 1, L, .inl f))] := hD
  have hown : s.vm.findClass RJ0 = some m.cls := hown
  have hP : va_P D zCl [(h0, .inr (2, [.null, .int (nI 0), .int (nI 0), .int (nI 0)])), (a, .inl (G 1, L, .inl f))] s.heap := hP
  have hl : lv_has ls 4 [(0, .ref h0), (1, .ref a), (2, .int (nI 0)), (3, .int (nI n))] := hl
  refine lv_aload_n hx hb dJ0_init_0 rfl (lv_at hl 0 rfl) ?_
  refine lv_aload_n hx hb dJ0_init_1 rfl (lv_at hl 1 rfl) ?_
  refine lv_iload_n hx hb dJ0_init_2 rfl (lv_at hl 2 rfl) ?_
  refine lv_iload_n hx hb dJ0_init_3 rfl (lv_at hl 3 rfl) ?_
  refine lv_aload_n hx hb dJ0_init_4 rfl (lv_at hl 1 rfl) ?_
  refine lv_iload_n hx hb dJ0_init_5 rfl (lv_at hl 2 rfl) ?_
  refine lv_iload_n hx hb dJ0_init_6 rfl (lv_at hl 3 rfl) ?_
  refine z_getc (va_runS (As := [.ref a, .int (nI 0), .int (nI n)]) (rest := [.int (nI n), .int (nI 0), .ref a, .ref h0]) ⟨hx, hb, hml, hown, hts⟩ (g_J0_rangeCheck l D G (by omega) hL) (va_cwS 3 hts (lw_S q58 q59 q4 q60) rfl rfl rfl (by decide +kernel) ⟨Nat.le_of_ble_eq_true rfl, Nat.le_of_ble_eq_true rfl⟩) (z_preSg hK hP hG hS [1] rfl) rfl rfl hl.1 rfl (lv_room (Nat.le_of_ble_eq_true rfl)) dJ0_init_7 ⟨Nat.le_of_ble_eq_true rfl, Nat.le_of_ble_eq_true rfl⟩) ?_
  refine z_callv (wr := []) (va_runI (As := [.ref a, .int (nI 0), .int (nI n), .null]) (rest := []) ⟨hx, hb, hml, hown, hts⟩ (m_J0_init2 l D G h hL h1 hn hf s.heap.size) (cwI 4 hts (lw_meth q71) rfl rfl rfl (hts _ q4) (hts _ q69) (hts _ q70) rfl (by decide +kernel) ⟨Nat.le_of_ble_eq_true rfl, Nat.le_of_ble_eq_true rfl⟩) (z_preS hK hP hD hG hS hA [0, 1] rfl (by decide)) rfl rfl hl.1 rfl (lv_room (Nat.le_of_ble_eq_true rfl)) dJ0_init_10 ⟨Nat.le_of_ble_eq_true rfl, Nat.le_of_ble_eq_true rfl⟩) hP hD hS hA [0, 1] [] rfl rfl (by decide) (by decide) (fun u H locs hw hP hD hS => ?_)
  obtain ⟨V, g⟩ := u
  have hP : va_P D zCl [(h0, .inr (2, [.ref V, .int (nI 0), .int (nI 0), .int (nI 0)])), (a, .inl (G 1, L, .inl f)), (V, .inl (G 2, n, .inl g))] H := hP
  have hD : va_D A [(h0, .inr (2, [.ref V, .int (nI 0), .int (nI 0), .int (nI 0)])), (a, .inl (G 1, L, .inl f)), (V, .inl (G 2, n, .inl g))] := hD
  have hP := hP.sub (ws' := [(h0, .inr (2, [.ref V, .int (nI 0), .int (nI 0), .int (nI 0)])), (a, .inl (G 1, L, .inl f)), (V, .inl (G 2, n, .inl g))]) [0, 1, 2] rfl
  have hD := hD.sub (ws' := [(h0, .inr (2, [.ref V, .int (nI 0), .int (nI 0), .int (nI 0)])), (a, .inl (G 1, L, .inl f)), (V, .inl (G 2, n, .inl g))]) [0, 1, 2] (by decide) rfl
  exact z_vret hx hb hr hlocks (V, g) (hw) hP hD hS dJ0_init_13
set_option maxHeartbeats 4000000 in
set_option maxRecDepth 100000 in
theorem m_J0_init3 (l : Launch) (D : va_G) (G : Nat → Nat) {h0 a n : Nat} {f : Nat → Int32} {t : Nat → Nat} (hL : n < 2 ^ 30) (h1 : 1 ≤ n) (hn : n ≤ 98) (hf : zCh t n f) : zMet l yJ0_init_3 cJ0_init_3 2 (Option.none : Option Jvm.ClassFile.FieldType) ({ frames := 3, cells := 1, slots := 98, locals := 76 } : Room) D G [.ref h0, .ref a] [(h0, .inr (2, [.null, .int (nI 0), .int (nI 0), .int (nI 0)])), (a, .inl (G 1, n, .inl f))] (zQv D (fun (u : Nat × (Nat → Int32)) => sb_Lat t n u.2) (fun u => [(h0, .inr (2, [.ref u.1, .int (nI 0), .int (nI 0), .int (nI 0)])), (a, .inl (G 1, n, .inl f)), (u.1, .inl (G 2, n, .inl u.2))])) 1 98 := by
  refine z_met (by decide) (Nat.le_of_ble_eq_true rfl) ?_
  intro p e s m below meth c A ls hx hb hr hml hown hlocks hin hts hK hP hD hS hA hG hl
  have hD : va_D A [(h0, .inr (2, [.null, .int (nI 0), .int (nI 0), .int (nI 0)])), (a, .inl (G 1, n, .inl f))] := hD
  have hown : s.vm.findClass RJ0 = some m.cls := hown
  have hP : va_P D zCl [(h0, .inr (2, [.null, .int (nI 0), .int (nI 0), .int (nI 0)])), (a, .inl (G 1, n, .inl f))] s.heap := hP
  have hl : lv_has ls 2 [(0, .ref h0), (1, .ref a)] := hl
  refine lv_aload_n hx hb dJ0_init_3_0 rfl (lv_at hl 0 rfl) ?_
  refine lv_aload_n hx hb dJ0_init_3_1 rfl (lv_at hl 1 rfl) ?_
  refine lv_iconst (v := nI 0) hx hb dJ0_init_3_2 (by decide) ?_
  refine lv_aload_n hx hb dJ0_init_3_3 rfl (lv_at hl 1 rfl) ?_
  refine va_alen (v := nI n) hx hb hK hP 1 1 rfl rfl rfl dJ0_init_3_4 ?_
  refine lv_null hx hb dJ0_init_3_5 ?_
  refine z_callv (wr := []) (va_runI (As := [.ref a, .int (nI 0), .int (nI n), .null]) (rest := []) ⟨hx, hb, hml, hown, hts⟩ (m_J0_init2 l D G (Nat.le_refl _) hL h1 hn hf s.heap.size) (cwI 4 hts (lw_meth q71) rfl rfl rfl (hts _ q4) (hts _ q69) (hts _ q70) rfl (by decide +kernel) ⟨Nat.le_of_ble_eq_true rfl, Nat.le_of_ble_eq_true rfl⟩) (z_preS hK hP hD hG hS hA [0, 1] rfl (by decide)) rfl rfl hl.1 rfl (lv_room (Nat.le_of_ble_eq_true rfl)) dJ0_init_3_6 ⟨Nat.le_of_ble_eq_true rfl, Nat.le_of_ble_eq_true rfl⟩) hP hD hS hA [0, 1] [] rfl rfl (by decide) (by decide) (fun u H locs hw hP hD hS => ?_)
  obtain ⟨V, g⟩ := u
  have hP : va_P D zCl [(h0, .inr (2, [.ref V, .int (nI 0), .int (nI 0), .int (nI 0)])), (a, .inl (G 1, n, .inl f)), (V, .inl (G 2, n, .inl g))] H := hP
  have hD : va_D A [(h0, .inr (2, [.ref V, .int (nI 0), .int (nI 0), .int (nI 0)])), (a, .inl (G 1, n, .inl f)), (V, .inl (G 2, n, .inl g))] := hD
  have hP := hP.sub (ws' := [(h0, .inr (2, [.ref V, .int (nI 0), .int (nI 0), .int (nI 0)])), (a, .inl (G 1, n, .inl f)), (V, .inl (G 2, n, .inl g))]) [0, 1, 2] rfl
  have hD := hD.sub (ws' := [(h0, .inr (2, [.ref V, .int (nI 0), .int (nI 0), .int (nI 0)])), (a, .inl (G 1, n, .inl f)), (V, .inl (G 2, n, .inl g))]) [0, 1, 2] (by decide) rfl
  exact z_vret hx hb hr hlocks (V, g) (hw) hP hD hS dJ0_init_3_9
set_option maxHeartbeats 4000000 in
set_option maxRecDepth 100000 in
theorem m_J0_valueOf (l : Launch) (D : va_G) (G : Nat → Nat) {a n : Nat} {f : Nat → Int32} {t : Nat → Nat} (hL : n < 2 ^ 30) (h1 : 1 ≤ n) (hn : n ≤ 98) (hf : zCh t n f) : zMet l yJ0_valueOf cJ0_valueOf 1 (Option.some (Jvm.ClassFile.FieldType.object "java/lang/String")) ({ frames := 4, cells := 2, slots := 102, locals := 97 } : Room) D G [.ref a] [(a, .inl (G 1, n, .inl f))] (zQr D (fun (u : Nat × (Nat → Int32)) => sb_Lat t n u.2) (fun u h0 => [(a, .inl (G 1, n, .inl f)), (h0, .inr (2, [.ref u.1, .int (nI 0), .int (nI 0), .int (nI 0)])), (u.1, .inl (G 2, n, .inl u.2))])) 2 102 := by
  refine z_met (by decide) (Nat.le_of_ble_eq_true rfl) ?_
  intro p e s m below meth c A ls hx hb hr hml hown hlocks hin hts hK hP hD hS hA hG hl
  have hD : va_D A [(a, .inl (G 1, n, .inl f))] := hD
  have hown : s.vm.findClass RJ0 = some m.cls := hown
  have hP : va_P D zCl [(a, .inl (G 1, n, .inl f))] s.heap := hP
  have hl : lv_has ls 1 [(0, .ref a)] := hl
  refine va_new (ci := 2) (fs := [.null, .int (nI 0), .int (nI 0), .int (nI 0)]) (C := RJ0) (T := TJ0) (N := 4) hx hb hts in_J0 tyJ0 tyJ0_ok hown (hts _ q439) (hts _ q52) (hts _ q4) hK hP hD hS hA rfl (fun j hj => by rcases (show j = 0 ∨ j = 1 ∨ j = 2 ∨ j = 3 by omega) with rfl | rfl | rfl | rfl <;> rfl) (Nat.le_of_ble_eq_true rfl) (Nat.le_of_ble_eq_true rfl) dJ0_valueOf_0 (fun h0 H hP hD hS => ?_)
  have hP : va_P D zCl [(a, .inl (G 1, n, .inl f)), (h0, .inr (2, [.null, .int (nI 0), .int (nI 0), .int (nI 0)]))] H := hP
  have hD : va_D A [(a, .inl (G 1, n, .inl f)), (h0, .inr (2, [.null, .int (nI 0), .int (nI 0), .int (nI 0)]))] := hD
  refine W.widen (k := 1) (n := 4) (Nat.le_of_ble_eq_true rfl) (Nat.le_of_ble_eq_true rfl) ?_
  refine lv_dup hx hb dJ0_valueOf_3 rfl ?_
  refine lv_aload_n hx hb dJ0_valueOf_4 rfl (lv_at hl 0 rfl) ?_
  refine z_callv (wr := []) (va_runI (As := [.ref a]) (rest := [.ref h0]) ⟨hx, hb, hml, hown, hts⟩ (m_J0_init3 l D G hL h1 hn hf H.size) (cwI 1 hts (lw_meth q442) rfl rfl rfl (hts _ q4) (hts _ q440) (hts _ q441) rfl (by decide +kernel) ⟨Nat.le_of_ble_eq_true rfl, Nat.le_of_ble_eq_true rfl⟩) (z_preS hK hP hD hG hS hA [1, 0] rfl (by decide)) rfl rfl hl.1 rfl (lv_room (Nat.le_of_ble_eq_true rfl)) dJ0_valueOf_5 ⟨Nat.le_of_ble_eq_true rfl, Nat.le_of_ble_eq_true rfl⟩) hP hD hS hA [1, 0] [] rfl rfl (by decide) (by decide) (fun u H locs hw hP hD hS => ?_)
  obtain ⟨V, g⟩ := u
  have hP : va_P D zCl [(h0, .inr (2, [.ref V, .int (nI 0), .int (nI 0), .int (nI 0)])), (a, .inl (G 1, n, .inl f)), (V, .inl (G 2, n, .inl g))] H := hP
  have hD : va_D A [(h0, .inr (2, [.ref V, .int (nI 0), .int (nI 0), .int (nI 0)])), (a, .inl (G 1, n, .inl f)), (V, .inl (G 2, n, .inl g))] := hD
  have hP := hP.sub (ws' := [(a, .inl (G 1, n, .inl f)), (h0, .inr (2, [.ref V, .int (nI 0), .int (nI 0), .int (nI 0)])), (V, .inl (G 2, n, .inl g))]) [1, 0, 2] rfl
  have hD := hD.sub (ws' := [(a, .inl (G 1, n, .inl f)), (h0, .inr (2, [.ref V, .int (nI 0), .int (nI 0), .int (nI 0)])), (V, .inl (G 2, n, .inl g))]) [1, 0, 2] (by decide) rfl
  exact z_aret hx hb hr (Or.inl ⟨_, rfl⟩) hlocks (V, g) (hw) hP hD hS dJ0_valueOf_8
set_option maxHeartbeats 4000000 in
set_option maxRecDepth 100000 in
theorem g_J0_coder (l : Launch) (D : va_G) (G : Nat → Nat) {S V n : Nat} {f : Nat → Int32} : zGet l yJ0_coder cJ0_coder 1 (Option.some Jvm.ClassFile.FieldType.byte) ({ frames := 0, cells := 0, slots := 0, locals := 0 } : Room) D G [.ref S] [(S, .inr (2, [.ref V, .int (nI 0), .int (nI 0), .int (nI 0)])), (V, .inl (G 2, n, .inl f))] (.int (nI 0)) := by
  refine z_gmet (by decide) (Nat.le_of_ble_eq_true rfl) ?_
  intro p e s m below meth c ls hx hb hr hml hown hlocks hts hK hP hS hG hl
  have hown : s.vm.findClass RJ0 = some m.cls := hown
  have hP : va_P D zCl [(S, .inr (2, [.ref V, .int (nI 0), .int (nI 0), .int (nI 0)])), (V, .inl (G 2, n, .inl f))] s.heap := hP
  have hl : lv_has ls 1 [(0, .ref S)] := hl
  refine va_gets hx hb hG.compact hS hown (hts _ q74) (fun _ h9 => h9) dJ0_coder_0 ?_
  refine lv_if_eq (tgt := 13) hx hb dJ0_coder_3 (by decide) (fun c9 => absurd c9 (show ¬ nI 1 = 0 by decide)) (fun _ => ?_)
  refine lv_aload_n hx hb dJ0_coder_6 rfl (lv_at hl 0 rfl) ?_
  refine va_get (D := D) (ci := 2) (v := .int (nI 0)) (C := RJ0) (T := TJ0) (N := 4) hx hb hts in_J0 hown hK hP 0 rfl rfl 1 (by decide) (hts _ q119) (fun _ h9 => h9) rfl dJ0_coder_7 ?_
  refine lv_goto (tgt := 14) hx hb dJ0_coder_10 (by decide) ?_
  exact z_gret hx hb hr (rfl) hlocks dJ0_coder_14
set_option maxHeartbeats 4000000 in
set_option maxRecDepth 100000 in
theorem g_J0_isLatin1 (l : Launch) (D : va_G) (G : Nat → Nat) {S V n : Nat} {f : Nat → Int32} : zGet l yJ0_isLatin1 cJ0_isLatin1 1 (Option.some Jvm.ClassFile.FieldType.boolean) ({ frames := 0, cells := 0, slots := 0, locals := 0 } : Room) D G [.ref S] [(S, .inr (2, [.ref V, .int (nI 0), .int (nI 0), .int (nI 0)])), (V, .inl (G 2, n, .inl f))] (.int (nI 1)) := by
  refine z_gmet (by decide) (Nat.le_of_ble_eq_true rfl) ?_
  intro p e s m below meth c ls hx hb hr hml hown hlocks hts hK hP hS hG hl
  have hown : s.vm.findClass RJ0 = some m.cls := hown
  have hP : va_P D zCl [(S, .inr (2, [.ref V, .int (nI 0), .int (nI 0), .int (nI 0)])), (V, .inl (G 2, n, .inl f))] s.heap := hP
  have hl : lv_has ls 1 [(0, .ref S)] := hl
  refine va_gets hx hb hG.compact hS hown (hts _ q74) (fun _ h9 => h9) dJ0_isLatin1_0 ?_
  refine lv_if_eq (tgt := 17) hx hb dJ0_isLatin1_3 (by decide) (fun c9 => absurd c9 (show ¬ nI 1 = 0 by decide)) (fun _ => ?_)
  refine lv_aload_n hx hb dJ0_isLatin1_6 rfl (lv_at hl 0 rfl) ?_
  refine va_get (D := D) (ci := 2) (v := .int (nI 0)) (C := RJ0) (T := TJ0) (N := 4) hx hb hts in_J0 hown hK hP 0 rfl rfl 1 (by decide) (hts _ q119) (fun _ h9 => h9) rfl dJ0_isLatin1_7 ?_
  refine lv_if_ne (tgt := 17) hx hb dJ0_isLatin1_10 (by decide) (fun c9 => absurd (show nI 0 = 0 by decide) c9) (fun _ => ?_)
  refine lv_iconst (v := nI 1) hx hb dJ0_isLatin1_13 (by decide) ?_
  refine lv_goto (tgt := 18) hx hb dJ0_isLatin1_14 (by decide) ?_
  exact z_gret hx hb hr (rfl) hlocks dJ0_isLatin1_18
set_option maxHeartbeats 4000000 in
set_option maxRecDepth 100000 in
theorem g_J0_length (l : Launch) (D : va_G) (G : Nat → Nat) {S V n : Nat} {f : Nat → Int32} (hn : n < 2 ^ 30) : zGet l yJ0_length cJ0_length 1 (Option.some Jvm.ClassFile.FieldType.int) ({ frames := 1, cells := 0, slots := 0, locals := 20 } : Room) D G [.ref S] [(S, .inr (2, [.ref V, .int (nI 0), .int (nI 0), .int (nI 0)])), (V, .inl (G 2, n, .inl f))] (.int (nI n)) := by
  refine z_gmet (by decide) (Nat.le_of_ble_eq_true rfl) ?_
  intro p e s m below meth c ls hx hb hr hml hown hlocks hts hK hP hS hG hl
  have hown : s.vm.findClass RJ0 = some m.cls := hown
  have hP : va_P D zCl [(S, .inr (2, [.ref V, .int (nI 0), .int (nI 0), .int (nI 0)])), (V, .inl (G 2, n, .inl f))] s.heap := hP
  have hl : lv_has ls 1 [(0, .ref S)] := hl
  refine lv_aload_n hx hb dJ0_length_0 rfl (lv_at hl 0 rfl) ?_
  refine va_get (D := D) (ci := 2) (v := .ref V) (C := RJ0) (T := TJ0) (N := 4) hx hb hts in_J0 hown hK hP 0 rfl rfl 0 (by decide) (hts _ q118) (fun _ h9 => h9) rfl dJ0_length_1 ?_
  refine va_alen (v := nI n) hx hb hK hP 1 2 rfl rfl rfl dJ0_length_4 ?_
  refine lv_aload_n hx hb dJ0_length_5 rfl (lv_at hl 0 rfl) ?_
  refine z_getc (va_runV (As := []) (rest := [.int (nI n)]) ⟨hx, hb, hml, hown, hts⟩ (g_J0_coder l D G ) (cwV 0 hts (lw_V q172 q173 q174 q4 q175) rfl rfl rfl (by decide +kernel) ⟨Nat.le_of_ble_eq_true rfl, Nat.le_of_ble_eq_true rfl⟩) (z_preVg (z_rc hK hP 0 2 rfl rfl) (z_preSg hK hP hG hS [0, 1] rfl)) rfl rfl hl.1 rfl (lv_room (Nat.le_of_ble_eq_true rfl)) dJ0_length_6 ⟨Nat.le_of_ble_eq_true rfl, Nat.le_of_ble_eq_true rfl⟩) ?_
  refine z_ishr hx hb (by omega) (by omega) dJ0_length_9 ?_
  rw [show nI (n / 2 ^ 0) = nI n from congrArg nI (by rw [Nat.pow_zero, Nat.div_one])]
  exact z_gret hx hb hr (rfl) hlocks dJ0_length_10
set_option maxHeartbeats 4000000 in
set_option maxRecDepth 100000 in
/-- coder of the constant "" -/
theorem g_J0_coder0 (l : Launch) (D : va_G) (G : Nat → Nat)  : zGet l yJ0_coder cJ0_coder 1 (Option.some Jvm.ClassFile.FieldType.byte) ({ frames := 0, cells := 0, slots := 0, locals := 0 } : Room) D G [.ref (G 9)] [] (.int (nI 0)) := by
  refine z_gmet (by decide) (Nat.le_of_ble_eq_true rfl) ?_
  intro p e s m below meth c ls hx hb hr hml hown hlocks hts hK hP hS hG hl
  have hown : s.vm.findClass RJ0 = some m.cls := hown
  have hP : va_P D zCl [] s.heap := hP
  have hl : lv_has ls 1 [(0, .ref (G 9))] := hl
  refine va_gets hx hb hG.compact hS hown (hts _ q74) (fun _ h9 => h9) dJ0_coder_0 ?_
  refine lv_if_eq (tgt := 13) hx hb dJ0_coder_3 (by decide) (fun c9 => absurd c9 (show ¬ nI 1 = 0 by decide)) (fun _ => ?_)
  refine lv_aload_n hx hb dJ0_coder_6 rfl (lv_at hl 0 rfl) ?_
  refine vk_getf hx hb hG.eC hS hown (hts _ q119) (fun _ h9 => h9) dJ0_coder_7 ?_
  refine lv_goto (tgt := 14) hx hb dJ0_coder_10 (by decide) ?_
  exact z_gret hx hb hr (rfl) hlocks dJ0_coder_14
set_option maxHeartbeats 4000000 in
set_option maxRecDepth 100000 in
/-- length of the constant "" -/
theorem g_J0_length0 (l : Launch) (D : va_G) (G : Nat → Nat)  : zGet l yJ0_length cJ0_length 1 (Option.some Jvm.ClassFile.FieldType.int) ({ frames := 1, cells := 0, slots := 0, locals := 20 } : Room) D G [.ref (G 9)] [] (.int (nI 0)) := by
  refine z_gmet (by decide) (Nat.le_of_ble_eq_true rfl) ?_
  intro p e s m below meth c ls hx hb hr hml hown hlocks hts hK hP hS hG hl
  have hown : s.vm.findClass RJ0 = some m.cls := hown
  have hP : va_P D zCl [] s.heap := hP
  have hl : lv_has ls 1 [(0, .ref (G 9))] := hl
  refine lv_aload_n hx hb dJ0_length_0 rfl (lv_at hl 0 rfl) ?_
  refine vk_getf hx hb hG.eV hS hown (hts _ q118) (fun _ h9 => h9) dJ0_length_1 ?_
  refine va_tlen (v := nI 0) hx hb hG.eT hS rfl dJ0_length_4 ?_
  refine lv_aload_n hx hb dJ0_length_5 rfl (lv_at hl 0 rfl) ?_
  refine z_getc (va_runV (As := []) (rest := [.int (nI 0)]) ⟨hx, hb, hml, hown, hts⟩ (g_J0_coder0 l D G ) (cwV 0 hts (lw_V q172 q173 q174 q4 q175) rfl rfl rfl (by decide +kernel) ⟨Nat.le_of_ble_eq_true rfl, Nat.le_of_ble_eq_true rfl⟩) (z_preVg (va_Orecv hG.eO hS) (z_preSg hK hP hG hS [] rfl)) rfl rfl hl.1 rfl (lv_room (Nat.le_of_ble_eq_true rfl)) dJ0_length_6 ⟨Nat.le_of_ble_eq_true rfl, Nat.le_of_ble_eq_true rfl⟩) ?_
  refine z_ishr hx hb (by omega) (by omega) dJ0_length_9 ?_
  rw [show nI (0 / 2 ^ 0) = nI 0 from congrArg nI (by rw [Nat.pow_zero, Nat.div_one])]
  exact z_gret hx hb hr (rfl) hlocks dJ0_length_10
set_option maxHeartbeats 4000000 in
set_option maxRecDepth 100000 in
theorem g_J0_checkIndex (l : Launch) (D : va_G) (G : Nat → Nat) {i L : Nat} (h : i < L) (hL : L < 2 ^ 30) : zGet0 l yJ0_checkIndex cJ0_checkIndex 2 ({ frames := 1, cells := 0, slots := 0, locals := 22 } : Room) D G [.int (nI i), .int (nI L)] [] := by
  refine z_gmet (by decide) (Nat.le_of_ble_eq_true rfl) ?_
  intro p e s m below meth c ls hx hb hr hml hown hlocks hts hK hP hS hG hl
  have hown : s.vm.findClass RJ0 = some m.cls := hown
  have hP : va_P D zCl [] s.heap := hP
  have hl : lv_has ls 2 [(0, .int (nI i)), (1, .int (nI L))] := hl
  refine lv_iload_n hx hb dJ0_checkIndex_0 rfl (lv_at hl 0 rfl) ?_
  refine lv_iload_n hx hb dJ0_checkIndex_1 rfl (lv_at hl 1 rfl) ?_
  rcases hG.sioobe with hz | ⟨tz, hz⟩
  · refine va_gets hx hb hz hS hown (hts _ q64) (fun _ h9 => h9) dJ0_checkIndex_2 ?_
    refine z_getc (va_runS (As := [.int (nI i), .int (nI L), .null]) (rest := []) ⟨hx, hb, hml, hown, hts⟩ (g_J1_cidxN l D G h hL) (va_cwS 3 hts (lw_S q411 q412 q5 q413) rfl rfl rfl (by decide +kernel) ⟨Nat.le_of_ble_eq_true rfl, Nat.le_of_ble_eq_true rfl⟩) (z_preSg hK hP hG hS [] rfl) rfl rfl hl.1 rfl (lv_room (Nat.le_of_ble_eq_true rfl)) dJ0_checkIndex_5 ⟨Nat.le_of_ble_eq_true rfl, Nat.le_of_ble_eq_true rfl⟩) ?_
    refine lv_pop hx hb dJ0_checkIndex_8 rfl ?_
    exact z_gvret hx hb hr hlocks dJ0_checkIndex_9
  · refine va_gets hx hb hz hS hown (hts _ q64) (fun _ h9 => h9) dJ0_checkIndex_2 ?_
    refine z_getc (va_runS (As := [.int (nI i), .int (nI L), .ref tz]) (rest := []) ⟨hx, hb, hml, hown, hts⟩ (g_J1_cidxR l D G h hL tz) (va_cwS 3 hts (lw_S q411 q412 q5 q413) rfl rfl rfl (by decide +kernel) ⟨Nat.le_of_ble_eq_true rfl, Nat.le_of_ble_eq_true rfl⟩) (z_preSg hK hP hG hS [] rfl) rfl rfl hl.1 rfl (lv_room (Nat.le_of_ble_eq_true rfl)) dJ0_checkIndex_5 ⟨Nat.le_of_ble_eq_true rfl, Nat.le_of_ble_eq_true rfl⟩) ?_
    refine lv_pop hx hb dJ0_checkIndex_8 rfl ?_
    exact z_gvret hx hb hr hlocks dJ0_checkIndex_9
set_option maxHeartbeats 4000000 in
set_option maxRecDepth 100000 in
theorem g_J12_charAt (l : Launch) (D : va_G) (G : Nat → Nat) {V n i : Nat} {f : Nat → Int32} {t : Nat → Nat} (hn : n < 2 ^ 30) (hf : sb_Lat t n f) (h : i < n) : zGet l yJ12_charAt cJ12_charAt 2 (Option.some Jvm.ClassFile.FieldType.char) ({ frames := 2, cells := 0, slots := 0, locals := 43 } : Room) D G [.ref V, .int (nI i)] [(V, .inl (G 2, n, .inl f))] (.int (nI (t i))) := by
  refine z_gmet (by decide) (Nat.le_of_ble_eq_true rfl) ?_
  intro p e s m below meth c ls hx hb hr hml hown hlocks hts hK hP hS hG hl
  have hown : s.vm.findClass RJ12 = some m.cls := hown
  have hP : va_P D zCl [(V, .inl (G 2, n, .inl f))] s.heap := hP
  have hl : lv_has ls 2 [(0, .ref V), (1, .int (nI i))] := hl
  refine lv_iload_n hx hb dJ12_charAt_0 rfl (lv_at hl 1 rfl) ?_
  refine lv_aload_n hx hb dJ12_charAt_1 rfl (lv_at hl 0 rfl) ?_
  refine va_alen (v := nI n) hx hb hK hP 0 2 rfl rfl rfl dJ12_charAt_2 ?_
  refine z_getv (va_runS (As := [.int (nI i), .int (nI n)]) (rest := []) ⟨hx, hb, hml, hown, hts⟩ (g_J0_checkIndex l D G h hn) (va_cwS 2 hts (lw_S q408 q409 q4 q410) rfl rfl rfl (by decide +kernel) ⟨Nat.le_of_ble_eq_true rfl, Nat.le_of_ble_eq_true rfl⟩) (z_preSg hK hP hG hS [] rfl) rfl rfl hl.1 rfl (lv_room (Nat.le_of_ble_eq_true rfl)) dJ12_charAt_3 ⟨Nat.le_of_ble_eq_true rfl, Nat.le_of_ble_eq_true rfl⟩) ?_
  refine lv_aload_n hx hb dJ12_charAt_6 rfl (lv_at hl 0 rfl) ?_
  refine lv_iload_n hx hb dJ12_charAt_7 rfl (lv_at hl 1 rfl) ?_
  refine z_bald (v := sb_b (t i)) hx hb hK hP 0 2 rfl rfl (by omega) (by omega) ((hf i h).2) dJ12_charAt_8 ?_
  refine lv_sipush (v := nI 255) hx hb dJ12_charAt_9 (by decide) ?_
  refine lv_iand hx hb dJ12_charAt_12 ?_
  rw [show sb_b (t i) &&& nI 255 = nI (t i) from (sb_byte _ (hf i h).1).1]
  have hti := (hf i h).1
  refine z_i2c hx hb (by omega) dJ12_charAt_13 ?_
  exact z_gret hx hb hr ((pk_charN (by omega)).1) hlocks dJ12_charAt_14
set_option maxHeartbeats 4000000 in
set_option maxRecDepth 100000 in
theorem g_J0_charAt (l : Launch) (D : va_G) (G : Nat → Nat) {S V n i : Nat} {f : Nat → Int32} {t : Nat → Nat} (hn : n < 2 ^ 30) (hf : sb_Lat t n f) (h : i < n) : zGet l yJ0_charAt cJ0_charAt 2 (Option.some Jvm.ClassFile.FieldType.char) ({ frames := 3, cells := 0, slots := 0, locals := 64 } : Room) D G [.ref S, .int (nI i)] [(S, .inr (2, [.ref V, .int (nI 0), .int (nI 0), .int (nI 0)])), (V, .inl (G 2, n, .inl f))] (.int (nI (t i))) := by
  refine z_gmet (by decide) (Nat.le_of_ble_eq_true rfl) ?_
  intro p e s m below meth c ls hx hb hr hml hown hlocks hts hK hP hS hG hl
  have hown : s.vm.findClass RJ0 = some m.cls := hown
  have hP : va_P D zCl [(S, .inr (2, [.ref V, .int (nI 0), .int (nI 0), .int (nI 0)])), (V, .inl (G 2, n, .inl f))] s.heap := hP
  have hl : lv_has ls 2 [(0, .ref S), (1, .int (nI i))] := hl
  refine lv_aload_n hx hb dJ0_charAt_0 rfl (lv_at hl 0 rfl) ?_
  refine z_getc (va_runV (As := []) (rest := []) ⟨hx, hb, hml, hown, hts⟩ (g_J0_isLatin1 l D G ) (cwV 0 hts (lw_V q401 q402 q403 q4 q404) rfl rfl rfl (by decide +kernel) ⟨Nat.le_of_ble_eq_true rfl, Nat.le_of_ble_eq_true rfl⟩) (z_preVg (z_rc hK hP 0 2 rfl rfl) (z_preSg hK hP hG hS [0, 1] rfl)) rfl rfl hl.1 rfl (lv_room (Nat.le_of_ble_eq_true rfl)) dJ0_charAt_1 ⟨Nat.le_of_ble_eq_true rfl, Nat.le_of_ble_eq_true rfl⟩) ?_
  refine lv_if_eq (tgt := 16) hx hb dJ0_charAt_4 (by decide) (fun c9 => absurd c9 (show ¬ nI 1 = 0 by decide)) (fun _ => ?_)
  refine lv_aload_n hx hb dJ0_charAt_7 rfl (lv_at hl 0 rfl) ?_
  refine va_get (D := D) (ci := 2) (v := .ref V) (C := RJ0) (T := TJ0) (N := 4) hx hb hts in_J0 hown hK hP 0 rfl rfl 0 (by decide) (hts _ q118) (fun _ h9 => h9) rfl dJ0_charAt_8 ?_
  refine lv_iload_n hx hb dJ0_charAt_11 rfl (lv_at hl 1 rfl) ?_
  refine z_getc (va_runS (As := [.ref V, .int (nI i)]) (rest := []) ⟨hx, hb, hml, hown, hts⟩ (g_J12_charAt l D G hn hf h) (va_cwS 2 hts (lw_S q405 q406 q19 q407) rfl rfl rfl (by decide +kernel) ⟨Nat.le_of_ble_eq_true rfl, Nat.le_of_ble_eq_true rfl⟩) (z_preSg hK hP hG hS [1] rfl) rfl rfl hl.1 rfl (lv_room (Nat.le_of_ble_eq_true rfl)) dJ0_charAt_12 ⟨Nat.le_of_ble_eq_true rfl, Nat.le_of_ble_eq_true rfl⟩) ?_
  have hti := (hf i h).1
  exact z_gret hx hb hr ((pk_charN (by omega)).1) hlocks dJ0_charAt_15
end
section
/-! StringBuilder, Latin-1, with room enough from its start -/
set_option maxHeartbeats 4000000 in
set_option maxRecDepth 100000 in
theorem m_J7_init (l : Launch) (D : va_G) (G : Nat → Nat) {B n : Nat} (hn : n ≤ 98) : zMet l yJ7_init cJ7_init 2 (Option.none : Option Jvm.ClassFile.FieldType) ({ frames := 1, cells := 1, slots := 98, locals := 12 } : Room) D G [.ref B, .int (nI n)] [(B, .inr (3, [.null, .int (nI 0), .int (nI 0), .int (nI 0)]))] (zQv D (fun (_ : Nat) => True) (fun V => [(B, .inr (3, [.ref V, .int (nI 0), .int (nI 0), .int (nI 0)])), (V, .inl (G 2, n, .inl (fun _ => nI 0)))])) 1 98 := by
  refine z_met (by decide) (Nat.le_of_ble_eq_true rfl) ?_
  intro p e s m below meth c A ls hx hb hr hml hown hlocks hin hts hK hP hD hS hA hG hl
  have hD : va_D A [(B, .inr (3, [.null, .int (nI 0), .int (nI 0), .int (nI 0)]))] := hD
  have hown : s.vm.findClass RJ7 = some m.cls := hown
  have hP : va_P D zCl [(B, .inr (3, [.null, .int (nI 0), .int (nI 0), .int (nI 0)]))] s.heap := hP
  have hl : lv_has ls 2 [(0, .ref B), (1, .int (nI n))] := hl
  refine lv_aload_n hx hb dJ7_init_0 rfl (lv_at hl 0 rfl) ?_
  refine W.objInit hx hb hown (hts _ q257) (hts _ q26) (hts _ q27) rfl (by rw [hml]; exact hl.1) rfl dJ7_init_1 (Nat.le_of_ble_eq_true rfl) (Nat.le_of_ble_eq_true rfl) ?_
  refine W.eq (g2 := F0 m 4 ls []) rfl ?_
  refine va_gets hx hb hG.compact hS hown (hts _ q258) (fun _ h9 => h9) dJ7_init_4 ?_
  refine lv_if_eq (tgt := 25) hx hb dJ7_init_7 (by decide) (fun c9 => absurd c9 (show ¬ nI 1 = 0 by decide)) (fun _ => ?_)
  refine lv_aload_n hx hb dJ7_init_10 rfl (lv_at hl 0 rfl) ?_
  refine lv_iload_n hx hb dJ7_init_11 rfl (lv_at hl 1 rfl) ?_
  refine z_newb hx hb (hts _ q37) hK hP hD hS hA (by omega) (Nat.le_of_ble_eq_true rfl) (show 0 + n ≤ 98 by omega) dJ7_init_12 (fun V H hP hD hS => ?_)
  have hP : va_P D zCl [(B, .inr (3, [.null, .int (nI 0), .int (nI 0), .int (nI 0)])), (V, .inl (G 2, n, .inl (fun _ => nI 0)))] H := hP
  have hD : va_D A [(B, .inr (3, [.null, .int (nI 0), .int (nI 0), .int (nI 0)])), (V, .inl (G 2, n, .inl (fun _ => nI 0)))] := hD
  refine W.widen (k := 1) (n := 98) (by omega) (by omega) ?_
  refine va_put (D := D) (ci := 3) (v := .ref V) (ty := .array .byte) (C := RJ8) (T := TJ8) (N := 4) hx hb hts in_J8 tyJ8 tyJ8_ok nmJ8 hown hK hP hD hS 0 rfl rfl 0 (by decide) (hts _ q260) (fun _ h9 => h9) rfl (by decide +kernel) rfl rfl (Nat.le_of_ble_eq_true rfl) dJ7_init_14 (fun H locs hP hD hS => ?_)
  have hP : va_P D zCl [(B, .inr (3, [.ref V, .int (nI 0), .int (nI 0), .int (nI 0)])), (V, .inl (G 2, n, .inl (fun _ => nI 0)))] H := hP
  have hD : va_D A [(B, .inr (3, [.ref V, .int (nI 0), .int (nI 0), .int (nI 0)])), (V, .inl (G 2, n, .inl (fun _ => nI 0)))] := hD
  refine lv_aload_n hx hb dJ7_init_17 rfl (lv_at hl 0 rfl) ?_
  refine lv_iconst (v := nI 0) hx hb dJ7_init_18 (by decide) ?_
  refine va_put (D := D) (ci := 3) (v := .int (nI 0)) (ty := .byte) (C := RJ8) (T := TJ8) (N := 4) hx hb hts in_J8 tyJ8 tyJ8_ok nmJ8 hown hK hP hD hS 0 rfl rfl 1 (by decide) (hts _ q261) (fun _ h9 => h9) rfl (by decide +kernel) rfl rfl (Nat.le_of_ble_eq_true rfl) dJ7_init_19 (fun H locs hP hD hS => ?_)
  have hP : va_P D zCl [(B, .inr (3, [.ref V, .int (nI 0), .int (nI 0), .int (nI 0)])), (V, .inl (G 2, n, .inl (fun _ => nI 0)))] H := hP
  have hD : va_D A [(B, .inr (3, [.ref V, .int (nI 0), .int (nI 0), .int (nI 0)])), (V, .inl (G 2, n, .inl (fun _ => nI 0)))] := hD
  refine lv_goto (tgt := 38) hx hb dJ7_init_22 (by decide) ?_
  have hP := hP.sub (ws' := [(B, .inr (3, [.ref V, .int (nI 0), .int (nI 0), .int (nI 0)])), (V, .inl (G 2, n, .inl (fun _ => nI 0)))]) [0, 1] rfl
  have hD := hD.sub (ws' := [(B, .inr (3, [.ref V, .int (nI 0), .int (nI 0), .int (nI 0)])), (V, .inl (G 2, n, .inl (fun _ => nI 0)))]) [0, 1] (by decide) rfl
  exact z_vret hx hb hr hlocks V (trivial) hP hD hS dJ7_init_38
set_option maxHeartbeats 4000000 in
set_option maxRecDepth 100000 in
theorem m_J8_init (l : Launch) (D : va_G) (G : Nat → Nat) {B n : Nat} (hn : n ≤ 98) : zMet l yJ8_init cJ8_init 2 (Option.none : Option Jvm.ClassFile.FieldType) ({ frames := 2, cells := 1, slots := 98, locals := 33 } : Room) D G [.ref B, .int (nI n)] [(B, .inr (3, [.null, .int (nI 0), .int (nI 0), .int (nI 0)]))] (zQv D (fun (_ : Nat) => True) (fun V => [(B, .inr (3, [.ref V, .int (nI 0), .int (nI 0), .int (nI 0)])), (V, .inl (G 2, n, .inl (fun _ => nI 0)))])) 1 98 := by
  refine z_met (by decide) (Nat.le_of_ble_eq_true rfl) ?_
  intro p e s m below meth c A ls hx hb hr hml hown hlocks hin hts hK hP hD hS hA hG hl
  have hD : va_D A [(B, .inr (3, [.null, .int (nI 0), .int (nI 0), .int (nI 0)]))] := hD
  have hown : s.vm.findClass RJ8 = some m.cls := hown
  have hP : va_P D zCl [(B, .inr (3, [.null, .int (nI 0), .int (nI 0), .int (nI 0)]))] s.heap := hP
  have hl : lv_has ls 2 [(0, .ref B), (1, .int (nI n))] := hl
  refine lv_aload_n hx hb dJ8_init_0 rfl (lv_at hl 0 rfl) ?_
  refine lv_iload_n hx hb dJ8_init_1 rfl (lv_at hl 1 rfl) ?_
  refine z_callv (wr := []) (va_runI (As := [.int (nI n)]) (rest := []) ⟨hx, hb, hml, hown, hts⟩ (m_J7_init l D G hn s.heap.size) (cwI 1 hts (lw_meth q256) rfl rfl rfl (hts _ q13) (hts _ q254) (hts _ q255) rfl (by decide +kernel) ⟨Nat.le_of_ble_eq_true rfl, Nat.le_of_ble_eq_true rfl⟩) (z_preS hK hP hD hG hS hA [0] rfl (by decide)) rfl rfl hl.1 rfl (lv_room (Nat.le_of_ble_eq_true rfl)) dJ8_init_2 ⟨Nat.le_of_ble_eq_true rfl, Nat.le_of_ble_eq_true rfl⟩) hP hD hS hA [0] [] rfl rfl (by decide) (by decide) (fun V H locs hw hP hD hS => ?_)
  have hP : va_P D zCl [(B, .inr (3, [.ref V, .int (nI 0), .int (nI 0), .int (nI 0)])), (V, .inl (G 2, n, .inl (fun _ => nI 0)))] H := hP
  have hD : va_D A [(B, .inr (3, [.ref V, .int (nI 0), .int (nI 0), .int (nI 0)])), (V, .inl (G 2, n, .inl (fun _ => nI 0)))] := hD
  have hP := hP.sub (ws' := [(B, .inr (3, [.ref V, .int (nI 0), .int (nI 0), .int (nI 0)])), (V, .inl (G 2, n, .inl (fun _ => nI 0)))]) [0, 1] rfl
  have hD := hD.sub (ws' := [(B, .inr (3, [.ref V, .int (nI 0), .int (nI 0), .int (nI 0)])), (V, .inl (G 2, n, .inl (fun _ => nI 0)))]) [0, 1] (by decide) rfl
  exact z_vret hx hb hr hlocks V (trivial) hP hD hS dJ8_init_5
set_option maxHeartbeats 4000000 in
set_option maxRecDepth 100000 in
theorem g_J7_ensure (l : Launch) (D : va_G) (G : Nat → Nat) {B V N cnt q : Nat} {f : Nat → Int32} (h : q ≤ N) (hN : N < 2 ^ 30) : zGet0 l yJ7_ensureCapacityInternal cJ7_ensureCapacityInternal 3 ({ frames := 0, cells := 0, slots := 0, locals := 0 } : Room) D G [.ref B, .int (nI q)] [(B, .inr (3, [.ref V, .int (nI 0), .int (nI 0), .int (nI cnt)])), (V, .inl (G 2, N, .inl f))] := by
  refine z_gmet (by decide) (Nat.le_of_ble_eq_true rfl) ?_
  intro p e s m below meth c ls hx hb hr hml hown hlocks hts hK hP hS hG hl
  have hown : s.vm.findClass RJ7 = some m.cls := hown
  have hP : va_P D zCl [(B, .inr (3, [.ref V, .int (nI 0), .int (nI 0), .int (nI cnt)])), (V, .inl (G 2, N, .inl f))] s.heap := hP
  have hl : lv_has ls 3 [(0, .ref B), (1, .int (nI q))] := hl
  refine lv_aload_n hx hb dJ7_ensureCapacityInternal_0 rfl (lv_at hl 0 rfl) ?_
  refine va_get (D := D) (ci := 3) (v := .ref V) (C := RJ8) (T := TJ8) (N := 4) hx hb hts in_J8 hown hK hP 0 rfl rfl 0 (by decide) (hts _ q260) (fun _ h9 => h9) rfl dJ7_ensureCapacityInternal_1 ?_
  refine va_alen (v := nI N) hx hb hK hP 1 2 rfl rfl rfl dJ7_ensureCapacityInternal_4 ?_
  refine lv_aload_n hx hb dJ7_ensureCapacityInternal_5 rfl (lv_at hl 0 rfl) ?_
  refine va_get (D := D) (ci := 3) (v := .int (nI 0)) (C := RJ8) (T := TJ8) (N := 4) hx hb hts in_J8 hown hK hP 0 rfl rfl 1 (by decide) (hts _ q261) (fun _ h9 => h9) rfl dJ7_ensureCapacityInternal_6 ?_
  refine z_ishr hx hb (by omega) (by omega) dJ7_ensureCapacityInternal_9 ?_
  rw [show nI (N / 2 ^ 0) = nI N from congrArg nI (by rw [Nat.pow_zero, Nat.div_one])]
  refine lv_istore_n (lv' := [(2, .int (nI N)), (0, .ref B), (1, .int (nI q))]) hx hb dJ7_ensureCapacityInternal_10 rfl hl (by decide) rfl (fun ls hl => ?_)
  refine lv_iload_n hx hb dJ7_ensureCapacityInternal_11 rfl (lv_at hl 2 rfl) ?_
  refine lv_iload_n hx hb dJ7_ensureCapacityInternal_12 rfl (lv_at hl 0 rfl) ?_
  refine lv_isub hx hb dJ7_ensureCapacityInternal_13 ?_
  refine lv_if_le (tgt := 38) hx hb dJ7_ensureCapacityInternal_14 (by decide) (fun _ => ?_) (fun c9 => absurd (z_sle h hN) c9)
  exact z_gvret hx hb hr hlocks dJ7_ensureCapacityInternal_38
set_option maxHeartbeats 4000000 in
set_option maxRecDepth 100000 in
theorem g_J7_inflate (l : Launch) (D : va_G) (G : Nat → Nat) {B V N cnt S X n : Nat} {f g : Nat → Int32} : zGet0 l yJ7_inflateIfNeededFor cJ7_inflateIfNeededFor 2 ({ frames := 1, cells := 0, slots := 0, locals := 20 } : Room) D G [.ref B, .ref S] [(B, .inr (3, [.ref V, .int (nI 0), .int (nI 0), .int (nI cnt)])), (V, .inl (G 2, N, .inl f)), (S, .inr (2, [.ref X, .int (nI 0), .int (nI 0), .int (nI 0)])), (X, .inl (G 2, n, .inl g))] := by
  refine z_gmet (by decide) (Nat.le_of_ble_eq_true rfl) ?_
  intro p e s m below meth c ls hx hb hr hml hown hlocks hts hK hP hS hG hl
  have hown : s.vm.findClass RJ7 = some m.cls := hown
  have hP : va_P D zCl [(B, .inr (3, [.ref V, .int (nI 0), .int (nI 0), .int (nI cnt)])), (V, .inl (G 2, N, .inl f)), (S, .inr (2, [.ref X, .int (nI 0), .int (nI 0), .int (nI 0)])), (X, .inl (G 2, n, .inl g))] s.heap := hP
  have hl : lv_has ls 2 [(0, .ref B), (1, .ref S)] := hl
  refine va_gets hx hb hG.compact hS hown (hts _ q258) (fun _ h9 => h9) dJ7_inflateIfNeededFor_0 ?_
  refine lv_if_eq (tgt := 21) hx hb dJ7_inflateIfNeededFor_3 (by decide) (fun c9 => absurd c9 (show ¬ nI 1 = 0 by decide)) (fun _ => ?_)
  refine lv_aload_n hx hb dJ7_inflateIfNeededFor_6 rfl (lv_at hl 0 rfl) ?_
  refine va_get (D := D) (ci := 3) (v := .int (nI 0)) (C := RJ8) (T := TJ8) (N := 4) hx hb hts in_J8 hown hK hP 0 rfl rfl 1 (by decide) (hts _ q261) (fun _ h9 => h9) rfl dJ7_inflateIfNeededFor_7 ?_
  refine lv_aload_n hx hb dJ7_inflateIfNeededFor_10 rfl (lv_at hl 1 rfl) ?_
  refine z_getc (va_runV (As := []) (rest := [.int (nI 0)]) ⟨hx, hb, hml, hown, hts⟩ (g_J0_coder l D G ) (cwV 0 hts (lw_V q346 q173 q174 q4 q175) rfl rfl rfl (by decide +kernel) ⟨Nat.le_of_ble_eq_true rfl, Nat.le_of_ble_eq_true rfl⟩) (z_preVg (z_rc hK hP 2 2 rfl rfl) (z_preSg hK hP hG hS [2, 3] rfl)) rfl rfl hl.1 rfl (lv_room (Nat.le_of_ble_eq_true rfl)) dJ7_inflateIfNeededFor_11 ⟨Nat.le_of_ble_eq_true rfl, Nat.le_of_ble_eq_true rfl⟩) ?_
  refine lv_icmp_eq (tgt := 21) hx hb dJ7_inflateIfNeededFor_14 (by decide) (fun _ => ?_) (fun c9 => absurd rfl c9)
  exact z_gvret hx hb hr hlocks dJ7_inflateIfNeededFor_21
set_option maxHeartbeats 4000000 in
set_option maxRecDepth 100000 in
/-- getBytes: the text is laid behind o letters -/
theorem m_J0_getBytes (l : Launch) (D : va_G) (G : Nat → Nat) {S X n V N o : Nat} {f g : Nat → Int32} {t0 t : Nat → Nat} (h : o + n ≤ N) (hN : N < 2 ^ 28) (hf : sb_Lat t0 o f) (hg : sb_Lat t n g) : zMet l yJ0_getBytes cJ0_getBytes 4 (Option.none : Option Jvm.ClassFile.FieldType) ({ frames := 1, cells := 0, slots := 0, locals := 70 } : Room) D G [.ref S, .ref V, .int (nI o), .int (nI 0)] [(V, .inl (G 2, N, .inl f)), (S, .inr (2, [.ref X, .int (nI 0), .int (nI 0), .int (nI 0)])), (X, .inl (G 2, n, .inl g))] (zQv D (fun (f1 : Nat → Int32) => sb_Lat (sb_cat t0 o t) (o + n) f1) (fun f1 => [(V, .inl (G 2, N, .inl f1)), (S, .inr (2, [.ref X, .int (nI 0), .int (nI 0), .int (nI 0)])), (X, .inl (G 2, n, .inl g))])) 0 0 := by
  refine z_met (by decide) (Nat.le_of_ble_eq_true rfl) ?_
  intro p e s m below meth c A ls hx hb hr hml hown hlocks hin hts hK hP hD hS hA hG hl
  have hD : va_D A [(V, .inl (G 2, N, .inl f)), (S, .inr (2, [.ref X, .int (nI 0), .int (nI 0), .int (nI 0)])), (X, .inl (G 2, n, .inl g))] := hD
  have hown : s.vm.findClass RJ0 = some m.cls := hown
  have hP : va_P D zCl [(V, .inl (G 2, N, .inl f)), (S, .inr (2, [.ref X, .int (nI 0), .int (nI 0), .int (nI 0)])), (X, .inl (G 2, n, .inl g))] s.heap := hP
  have hl : lv_has ls 4 [(0, .ref S), (1, .ref V), (2, .int (nI o)), (3, .int (nI 0))] := hl
  refine lv_aload_n hx hb dJ0_getBytes_0 rfl (lv_at hl 0 rfl) ?_
  refine z_getc (va_runV (As := []) (rest := []) ⟨hx, hb, hml, hown, hts⟩ (g_J0_coder l D G ) (cwV 0 hts (lw_V q172 q173 q174 q4 q175) rfl rfl rfl (by decide +kernel) ⟨Nat.le_of_ble_eq_true rfl, Nat.le_of_ble_eq_true rfl⟩) (z_preVg (z_rc hK hP 1 2 rfl rfl) (z_preSg hK hP hG hS [1, 2] rfl)) rfl rfl hl.1 rfl (lv_room (Nat.le_of_ble_eq_true rfl)) dJ0_getBytes_1 ⟨Nat.le_of_ble_eq_true rfl, Nat.le_of_ble_eq_true rfl⟩) ?_
  refine lv_iload_n hx hb dJ0_getBytes_4 rfl (lv_at hl 3 rfl) ?_
  refine lv_icmp_ne (tgt := 28) hx hb dJ0_getBytes_5 (by decide) (fun c9 => absurd rfl c9) (fun _ => ?_)
  refine lv_aload_n hx hb dJ0_getBytes_8 rfl (lv_at hl 0 rfl) ?_
  refine va_get (D := D) (ci := 2) (v := .ref X) (C := RJ0) (T := TJ0) (N := 4) hx hb hts in_J0 hown hK hP 1 rfl rfl 0 (by decide) (hts _ q118) (fun _ h9 => h9) rfl dJ0_getBytes_9 ?_
  refine lv_iconst (v := nI 0) hx hb dJ0_getBytes_12 (by decide) ?_
  refine lv_aload_n hx hb dJ0_getBytes_13 rfl (lv_at hl 1 rfl) ?_
  refine lv_iload_n hx hb dJ0_getBytes_14 rfl (lv_at hl 2 rfl) ?_
  refine lv_iload_n hx hb dJ0_getBytes_15 rfl (lv_at hl 3 rfl) ?_
  refine z_ishl hx hb (by omega) (by omega) dJ0_getBytes_16 ?_
  rw [show nI (o * 2 ^ 0) = nI o from congrArg nI (by rw [Nat.pow_zero, Nat.mul_one])]
  refine lv_aload_n hx hb dJ0_getBytes_17 rfl (lv_at hl 0 rfl) ?_
  refine va_get (D := D) (ci := 2) (v := .ref X) (C := RJ0) (T := TJ0) (N := 4) hx hb hts in_J0 hown hK hP 1 rfl rfl 0 (by decide) (hts _ q118) (fun _ h9 => h9) rfl dJ0_getBytes_18 ?_
  refine va_alen (v := nI n) hx hb hK hP 2 2 rfl rfl rfl dJ0_getBytes_21 ?_
  refine z_copyb hx hb (hml.trans hl.1.symm) hown (hts _ q361) (hts _ q319) (hts _ q318) (hts _ q18) hK hP hD hS 2 0 rfl rfl (Nat.le_refl _) h (by omega) hg (Nat.le_of_ble_eq_true rfl) (Nat.le_of_ble_eq_true rfl) dJ0_getBytes_22 (fun H locs hP hD hS => ?_)
  have hP : va_P D zCl [(V, .inl (G 2, N, .inl (va_cpy g f 0 o n))), (S, .inr (2, [.ref X, .int (nI 0), .int (nI 0), .int (nI 0)])), (X, .inl (G 2, n, .inl g))] H := hP
  have hD : va_D A [(V, .inl (G 2, N, .inl (va_cpy g f 0 o n))), (S, .inr (2, [.ref X, .int (nI 0), .int (nI 0), .int (nI 0)])), (X, .inl (G 2, n, .inl g))] := hD
  refine lv_goto (tgt := 43) hx hb dJ0_getBytes_25 (by decide) ?_
  have hP := hP.sub (ws' := [(V, .inl (G 2, N, .inl (va_cpy g f 0 o n))), (S, .inr (2, [.ref X, .int (nI 0), .int (nI 0), .int (nI 0)])), (X, .inl (G 2, n, .inl g))]) [0, 1, 2] rfl
  have hD := hD.sub (ws' := [(V, .inl (G 2, N, .inl (va_cpy g f 0 o n))), (S, .inr (2, [.ref X, .int (nI 0), .int (nI 0), .int (nI 0)])), (X, .inl (G 2, n, .inl g))]) [0, 1, 2] (by decide) rfl
  exact z_vret hx hb hr hlocks (va_cpy g f 0 o n) (z_cpy_lat hf hg) hP hD hS dJ0_getBytes_43
set_option maxHeartbeats 4000000 in
set_option maxRecDepth 100000 in
theorem m_J7_putStringAt (l : Launch) (D : va_G) (G : Nat → Nat) {B V N o S X n : Nat} {f g : Nat → Int32} {t0 t : Nat → Nat} (h : o + n ≤ N) (hN : N < 2 ^ 28) (hf : sb_Lat t0 o f) (hg : sb_Lat t n g) : zMet l yJ7_putStringAt cJ7_putStringAt 3 (Option.none : Option Jvm.ClassFile.FieldType) ({ frames := 2, cells := 0, slots := 0, locals := 93 } : Room) D G [.ref B, .int (nI o), .ref S] [(B, .inr (3, [.ref V, .int (nI 0), .int (nI 0), .int (nI o)])), (V, .inl (G 2, N, .inl f)), (S, .inr (2, [.ref X, .int (nI 0), .int (nI 0), .int (nI 0)])), (X, .inl (G 2, n, .inl g))] (zQv D (fun (f1 : Nat → Int32) => sb_Lat (sb_cat t0 o t) (o + n) f1) (fun f1 => [(B, .inr (3, [.ref V, .int (nI 0), .int (nI 0), .int (nI o)])), (V, .inl (G 2, N, .inl f1)), (S, .inr (2, [.ref X, .int (nI 0), .int (nI 0), .int (nI 0)])), (X, .inl (G 2, n, .inl g))])) 0 0 := by
  refine z_met (by decide) (Nat.le_of_ble_eq_true rfl) ?_
  intro p e s m below meth c A ls hx hb hr hml hown hlocks hin hts hK hP hD hS hA hG hl
  have hD : va_D A [(B, .inr (3, [.ref V, .int (nI 0), .int (nI 0), .int (nI o)])), (V, .inl (G 2, N, .inl f)), (S, .inr (2, [.ref X, .int (nI 0), .int (nI 0), .int (nI 0)])), (X, .inl (G 2, n, .inl g))] := hD
  have hown : s.vm.findClass RJ7 = some m.cls := hown
  have hP : va_P D zCl [(B, .inr (3, [.ref V, .int (nI 0), .int (nI 0), .int (nI o)])), (V, .inl (G 2, N, .inl f)), (S, .inr (2, [.ref X, .int (nI 0), .int (nI 0), .int (nI 0)])), (X, .inl (G 2, n, .inl g))] s.heap := hP
  have hl : lv_has ls 3 [(0, .ref B), (1, .int (nI o)), (2, .ref S)] := hl
  refine lv_aload_n hx hb dJ7_putStringAt_0 rfl (lv_at hl 0 rfl) ?_
  refine lv_aload_n hx hb dJ7_putStringAt_1 rfl (lv_at hl 2 rfl) ?_
  refine z_getv (va_runU (As := [.ref S]) (rest := []) ⟨hx, hb, hml, hown, hts⟩ (g_J7_inflate l D G ) (va_cwU (owner := RJ7) 1 hts (lw_app (z_un q342 q585 qx2 q344 q13) (lw_meth q345)) rfl rfl rfl rfl (by decide +kernel) ⟨Nat.le_of_ble_eq_true rfl, Nat.le_of_ble_eq_true rfl⟩) (z_preVg (z_rc hK hP 0 3 rfl rfl) (z_preSg hK hP hG hS [0, 1, 2, 3] rfl)) rfl rfl hl.1 rfl (lv_room (Nat.le_of_ble_eq_true rfl)) dJ7_putStringAt_2 ⟨Nat.le_of_ble_eq_true rfl, Nat.le_of_ble_eq_true rfl⟩) ?_
  refine lv_aload_n hx hb dJ7_putStringAt_5 rfl (lv_at hl 2 rfl) ?_
  refine lv_aload_n hx hb dJ7_putStringAt_6 rfl (lv_at hl 0 rfl) ?_
  refine va_get (D := D) (ci := 3) (v := .ref V) (C := RJ8) (T := TJ8) (N := 4) hx hb hts in_J8 hown hK hP 0 rfl rfl 0 (by decide) (hts _ q260) (fun _ h9 => h9) rfl dJ7_putStringAt_7 ?_
  refine lv_iload_n hx hb dJ7_putStringAt_10 rfl (lv_at hl 1 rfl) ?_
  refine lv_aload_n hx hb dJ7_putStringAt_11 rfl (lv_at hl 0 rfl) ?_
  refine va_get (D := D) (ci := 3) (v := .int (nI 0)) (C := RJ8) (T := TJ8) (N := 4) hx hb hts in_J8 hown hK hP 0 rfl rfl 1 (by decide) (hts _ q261) (fun _ h9 => h9) rfl dJ7_putStringAt_12 ?_
  refine z_callv (wr := [(B, .inr (3, [.ref V, .int (nI 0), .int (nI 0), .int (nI o)]))]) (va_runV (As := [.ref V, .int (nI o), .int (nI 0)]) (rest := []) ⟨hx, hb, hml, hown, hts⟩ (m_J0_getBytes l D G h hN hf hg s.heap.size) (cwV 3 hts (lw_V q357 q358 q359 q4 q360) rfl rfl rfl (by decide +kernel) ⟨Nat.le_of_ble_eq_true rfl, Nat.le_of_ble_eq_true rfl⟩) (z_preV (z_rc hK hP 2 2 rfl rfl) (z_preS hK hP hD hG hS hA [1, 2, 3] rfl (by decide))) rfl rfl hl.1 rfl (lv_room (Nat.le_of_ble_eq_true rfl)) dJ7_putStringAt_15 ⟨Nat.le_of_ble_eq_true rfl, Nat.le_of_ble_eq_true rfl⟩) hP hD hS hA [1, 2, 3] [0] rfl rfl (by decide) (by decide) (fun f1 H locs hw hP hD hS => ?_)
  have hP : va_P D zCl [(B, .inr (3, [.ref V, .int (nI 0), .int (nI 0), .int (nI o)])), (V, .inl (G 2, N, .inl f1)), (S, .inr (2, [.ref X, .int (nI 0), .int (nI 0), .int (nI 0)])), (X, .inl (G 2, n, .inl g))] H := hP
  have hD : va_D A [(B, .inr (3, [.ref V, .int (nI 0), .int (nI 0), .int (nI o)])), (V, .inl (G 2, N, .inl f1)), (S, .inr (2, [.ref X, .int (nI 0), .int (nI 0), .int (nI 0)])), (X, .inl (G 2, n, .inl g))] := hD
  have hP := hP.sub (ws' := [(B, .inr (3, [.ref V, .int (nI 0), .int (nI 0), .int (nI o)])), (V, .inl (G 2, N, .inl f1)), (S, .inr (2, [.ref X, .int (nI 0), .int (nI 0), .int (nI 0)])), (X, .inl (G 2, n, .inl g))]) [0, 1, 2, 3] rfl
  have hD := hD.sub (ws' := [(B, .inr (3, [.ref V, .int (nI 0), .int (nI 0), .int (nI o)])), (V, .inl (G 2, N, .inl f1)), (S, .inr (2, [.ref X, .int (nI 0), .int (nI 0), .int (nI 0)])), (X, .inl (G 2, n, .inl g))]) [0, 1, 2, 3] (by decide) rfl
  exact z_vret hx hb hr hlocks f1 (hw) hP hD hS dJ7_putStringAt_18
set_option maxHeartbeats 4000000 in
set_option maxRecDepth 100000 in
theorem m_J7_append (l : Launch) (D : va_G) (G : Nat → Nat) {B V N o S X n : Nat} {f g : Nat → Int32} {t0 t : Nat → Nat} (h : o + n ≤ N) (hN : N < 2 ^ 28) (hf : sb_Lat t0 o f) (hg : sb_Lat t n g) : zMet l yJ7_append cJ7_append 3 (Option.some (Jvm.ClassFile.FieldType.object "java/lang/AbstractStringBuilder")) ({ frames := 3, cells := 0, slots := 0, locals := 115 } : Room) D G [.ref B, .ref S] [(B, .inr (3, [.ref V, .int (nI 0), .int (nI 0), .int (nI o)])), (V, .inl (G 2, N, .inl f)), (S, .inr (2, [.ref X, .int (nI 0), .int (nI 0), .int (nI 0)])), (X, .inl (G 2, n, .inl g))] (zQr D (fun (f1 : Nat → Int32) => sb_Lat (sb_cat t0 o t) (o + n) f1) (fun f1 _ => [(B, .inr (3, [.ref V, .int (nI 0), .int (nI 0), .int (nI (o + n))])), (V, .inl (G 2, N, .inl f1)), (S, .inr (2, [.ref X, .int (nI 0), .int (nI 0), .int (nI 0)])), (X, .inl (G 2, n, .inl g))])) 0 0 := by
  refine z_met (by decide) (Nat.le_of_ble_eq_true rfl) ?_
  intro p e s m below meth c A ls hx hb hr hml hown hlocks hin hts hK hP hD hS hA hG hl
  have hD : va_D A [(B, .inr (3, [.ref V, .int (nI 0), .int (nI 0), .int (nI o)])), (V, .inl (G 2, N, .inl f)), (S, .inr (2, [.ref X, .int (nI 0), .int (nI 0), .int (nI 0)])), (X, .inl (G 2, n, .inl g))] := hD
  have hown : s.vm.findClass RJ7 = some m.cls := hown
  have hP : va_P D zCl [(B, .inr (3, [.ref V, .int (nI 0), .int (nI 0), .int (nI o)])), (V, .inl (G 2, N, .inl f)), (S, .inr (2, [.ref X, .int (nI 0), .int (nI 0), .int (nI 0)])), (X, .inl (G 2, n, .inl g))] s.heap := hP
  have hl : lv_has ls 3 [(0, .ref B), (1, .ref S)] := hl
  refine lv_aload_n hx hb dJ7_append_0 rfl (lv_at hl 1 rfl) ?_
  refine lv_ifnonnull (tgt := 9) hx hb dJ7_append_1 (by decide) ?_
  refine lv_aload_n hx hb dJ7_append_9 rfl (lv_at hl 1 rfl) ?_
  refine z_getc (va_runV (As := []) (rest := []) ⟨hx, hb, hml, hown, hts⟩ (g_J0_length l D G (by omega)) (cwV 0 hts (lw_V q337 q169 q170 q4 q171) rfl rfl rfl (by decide +kernel) ⟨Nat.le_of_ble_eq_true rfl, Nat.le_of_ble_eq_true rfl⟩) (z_preVg (z_rc hK hP 2 2 rfl rfl) (z_preSg hK hP hG hS [2, 3] rfl)) rfl rfl hl.1 rfl (lv_room (Nat.le_of_ble_eq_true rfl)) dJ7_append_10 ⟨Nat.le_of_ble_eq_true rfl, Nat.le_of_ble_eq_true rfl⟩) ?_
  refine lv_istore_n (lv' := [(2, .int (nI n)), (0, .ref B), (1, .ref S)]) hx hb dJ7_append_13 rfl hl (by decide) rfl (fun ls hl => ?_)
  refine lv_aload_n hx hb dJ7_append_14 rfl (lv_at hl 1 rfl) ?_
  refine lv_aload_n hx hb dJ7_append_15 rfl (lv_at hl 1 rfl) ?_
  refine va_get (D := D) (ci := 3) (v := .int (nI o)) (C := RJ8) (T := TJ8) (N := 4) hx hb hts in_J8 hown hK hP 0 rfl rfl 3 (by decide) (hts _ q264) (fun _ h9 => h9) rfl dJ7_append_16 ?_
  refine lv_iload_n hx hb dJ7_append_19 rfl (lv_at hl 0 rfl) ?_
  refine z_iadd hx hb dJ7_append_20 ?_
  refine z_getv (va_runU (As := [.int (nI (o + n))]) (rest := []) ⟨hx, hb, hml, hown, hts⟩ (g_J7_ensure l D G h (by omega)) (va_cwU (owner := RJ7) 1 hts (lw_app (z_un q285 q582 qx0 q287 q13) (lw_meth q288)) rfl rfl rfl rfl (by decide +kernel) ⟨Nat.le_of_ble_eq_true rfl, Nat.le_of_ble_eq_true rfl⟩) (z_preVg (z_rc hK hP 0 3 rfl rfl) (z_preSg hK hP hG hS [0, 1] rfl)) rfl rfl hl.1 rfl (lv_room (Nat.le_of_ble_eq_true rfl)) dJ7_append_21 ⟨Nat.le_of_ble_eq_true rfl, Nat.le_of_ble_eq_true rfl⟩) ?_
  refine lv_aload_n hx hb dJ7_append_24 rfl (lv_at hl 1 rfl) ?_
  refine lv_aload_n hx hb dJ7_append_25 rfl (lv_at hl 1 rfl) ?_
  refine va_get (D := D) (ci := 3) (v := .int (nI o)) (C := RJ8) (T := TJ8) (N := 4) hx hb hts in_J8 hown hK hP 0 rfl rfl 3 (by decide) (hts _ q264) (fun _ h9 => h9) rfl dJ7_append_26 ?_
  refine lv_aload_n hx hb dJ7_append_29 rfl (lv_at hl 2 rfl) ?_
  refine z_callv (wr := []) (va_runU (As := [.int (nI o), .ref S]) (rest := []) ⟨hx, hb, hml, hown, hts⟩ (m_J7_putStringAt l D G h hN hf hg s.heap.size) (va_cwU (owner := RJ7) 2 hts (lw_app (z_un q338 q584 qx1 q340 q13) (lw_meth q341)) rfl rfl rfl rfl (by decide +kernel) ⟨Nat.le_of_ble_eq_true rfl, Nat.le_of_ble_eq_true rfl⟩) (z_preV (z_rc hK hP 0 3 rfl rfl) (z_preS hK hP hD hG hS hA [0, 1, 2, 3] rfl (by decide))) rfl rfl hl.1 rfl (lv_room (Nat.le_of_ble_eq_true rfl)) dJ7_append_30 ⟨Nat.le_of_ble_eq_true rfl, Nat.le_of_ble_eq_true rfl⟩) hP hD hS hA [0, 1, 2, 3] [] rfl rfl (by decide) (by decide) (fun f1 H locs hw hP hD hS => ?_)
  have hP : va_P D zCl [(B, .inr (3, [.ref V, .int (nI 0), .int (nI 0), .int (nI o)])), (V, .inl (G 2, N, .inl f1)), (S, .inr (2, [.ref X, .int (nI 0), .int (nI 0), .int (nI 0)])), (X, .inl (G 2, n, .inl g))] H := hP
  have hD : va_D A [(B, .inr (3, [.ref V, .int (nI 0), .int (nI 0), .int (nI o)])), (V, .inl (G 2, N, .inl f1)), (S, .inr (2, [.ref X, .int (nI 0), .int (nI 0), .int (nI 0)])), (X, .inl (G 2, n, .inl g))] := hD
  refine lv_aload_n hx hb dJ7_append_33 rfl (lv_at hl 1 rfl) ?_
  refine lv_dup hx hb dJ7_append_34 rfl ?_
  refine va_get (D := D) (ci := 3) (v := .int (nI o)) (C := RJ8) (T := TJ8) (N := 4) hx hb hts in_J8 hown hK hP 0 rfl rfl 3 (by decide) (hts _ q264) (fun _ h9 => h9) rfl dJ7_append_35 ?_
  refine lv_iload_n hx hb dJ7_append_38 rfl (lv_at hl 0 rfl) ?_
  refine z_iadd hx hb dJ7_append_39 ?_
  refine va_put (D := D) (ci := 3) (v := .int (nI (o + n))) (ty := .int) (C := RJ8) (T := TJ8) (N := 4) hx hb hts in_J8 tyJ8 tyJ8_ok nmJ8 hown hK hP hD hS 0 rfl rfl 3 (by decide) (hts _ q264) (fun _ h9 => h9) rfl (by decide +kernel) rfl rfl (Nat.le_of_ble_eq_true rfl) dJ7_append_40 (fun H locs hP hD hS => ?_)
  have hP : va_P D zCl [(B, .inr (3, [.ref V, .int (nI 0), .int (nI 0), .int (nI (o + n))])), (V, .inl (G 2, N, .inl f1)), (S, .inr (2, [.ref X, .int (nI 0), .int (nI 0), .int (nI 0)])), (X, .inl (G 2, n, .inl g))] H := hP
  have hD : va_D A [(B, .inr (3, [.ref V, .int (nI 0), .int (nI 0), .int (nI (o + n))])), (V, .inl (G 2, N, .inl f1)), (S, .inr (2, [.ref X, .int (nI 0), .int (nI 0), .int (nI 0)])), (X, .inl (G 2, n, .inl g))] := hD
  refine lv_aload_n hx hb dJ7_append_43 rfl (lv_at hl 1 rfl) ?_
  have hP := hP.sub (ws' := [(B, .inr (3, [.ref V, .int (nI 0), .int (nI 0), .int (nI (o + n))])), (V, .inl (G 2, N, .inl f1)), (S, .inr (2, [.ref X, .int (nI 0), .int (nI 0), .int (nI 0)])), (X, .inl (G 2, n, .inl g))]) [0, 1, 2, 3] rfl
  have hD := hD.sub (ws' := [(B, .inr (3, [.ref V, .int (nI 0), .int (nI 0), .int (nI (o + n))])), (V, .inl (G 2, N, .inl f1)), (S, .inr (2, [.ref X, .int (nI 0), .int (nI 0), .int (nI 0)])), (X, .inl (G 2, n, .inl g))]) [0, 1, 2, 3] (by decide) rfl
  exact z_aret hx hb hr (Or.inl ⟨_, rfl⟩) hlocks f1 (hw) hP hD hS dJ7_append_44
set_option maxHeartbeats 4000000 in
set_option maxRecDepth 100000 in
theorem m_J8_append (l : Launch) (D : va_G) (G : Nat → Nat) {B V N o S X n : Nat} {f g : Nat → Int32} {t0 t : Nat → Nat} (h : o + n ≤ N) (hN : N < 2 ^ 28) (hf : sb_Lat t0 o f) (hg : sb_Lat t n g) : zMet l yJ8_append cJ8_append 2 (Option.some (Jvm.ClassFile.FieldType.object "java/lang/StringBuilder")) ({ frames := 4, cells := 0, slots := 0, locals := 137 } : Room) D G [.ref B, .ref S] [(B, .inr (3, [.ref V, .int (nI 0), .int (nI 0), .int (nI o)])), (V, .inl (G 2, N, .inl f)), (S, .inr (2, [.ref X, .int (nI 0), .int (nI 0), .int (nI 0)])), (X, .inl (G 2, n, .inl g))] (zQr D (fun (f1 : Nat → Int32) => sb_Lat (sb_cat t0 o t) (o + n) f1) (fun f1 _ => [(B, .inr (3, [.ref V, .int (nI 0), .int (nI 0), .int (nI (o + n))])), (V, .inl (G 2, N, .inl f1)), (S, .inr (2, [.ref X, .int (nI 0), .int (nI 0), .int (nI 0)])), (X, .inl (G 2, n, .inl g))])) 0 0 := by
  refine z_met (by decide) (Nat.le_of_ble_eq_true rfl) ?_
  intro p e s m below meth c A ls hx hb hr hml hown hlocks hin hts hK hP hD hS hA hG hl
  have hD : va_D A [(B, .inr (3, [.ref V, .int (nI 0), .int (nI 0), .int (nI o)])), (V, .inl (G 2, N, .inl f)), (S, .inr (2, [.ref X, .int (nI 0), .int (nI 0), .int (nI 0)])), (X, .inl (G 2, n, .inl g))] := hD
  have hown : s.vm.findClass RJ8 = some m.cls := hown
  have hP : va_P D zCl [(B, .inr (3, [.ref V, .int (nI 0), .int (nI 0), .int (nI o)])), (V, .inl (G 2, N, .inl f)), (S, .inr (2, [.ref X, .int (nI 0), .int (nI 0), .int (nI 0)])), (X, .inl (G 2, n, .inl g))] s.heap := hP
  have hl : lv_has ls 2 [(0, .ref B), (1, .ref S)] := hl
  refine lv_aload_n hx hb dJ8_append_0 rfl (lv_at hl 0 rfl) ?_
  refine lv_aload_n hx hb dJ8_append_1 rfl (lv_at hl 1 rfl) ?_
  refine z_callr (wr := []) (va_runSU (hK.1 3 _ rfl).2 (As := [.ref S]) (rest := []) ⟨hx, hb, hml, hown, hts⟩ (m_J7_append l D G h hN hf hg s.heap.size) (va_cwSU 1 hts (lw_app (z_su q278 q580 q273 q279 q13) (lw_meth q280)) rfl rfl rfl (by decide +kernel) ⟨Nat.le_of_ble_eq_true rfl, Nat.le_of_ble_eq_true rfl⟩) (z_preV (z_rc hK hP 0 3 rfl rfl) (z_preS hK hP hD hG hS hA [0, 1, 2, 3] rfl (by decide))) rfl rfl hl.1 rfl (lv_room (Nat.le_of_ble_eq_true rfl)) dJ8_append_2 ⟨Nat.le_of_ble_eq_true rfl, Nat.le_of_ble_eq_true rfl⟩) hP hD hS hA [0, 1, 2, 3] [] rfl rfl (by decide) (by decide) (fun f1 r8 H locs hw hP hD hS => ?_)
  have hP : va_P D zCl [(B, .inr (3, [.ref V, .int (nI 0), .int (nI 0), .int (nI (o + n))])), (V, .inl (G 2, N, .inl f1)), (S, .inr (2, [.ref X, .int (nI 0), .int (nI 0), .int (nI 0)])), (X, .inl (G 2, n, .inl g))] H := hP
  have hD : va_D A [(B, .inr (3, [.ref V, .int (nI 0), .int (nI 0), .int (nI (o + n))])), (V, .inl (G 2, N, .inl f1)), (S, .inr (2, [.ref X, .int (nI 0), .int (nI 0), .int (nI 0)])), (X, .inl (G 2, n, .inl g))] := hD
  refine lv_pop hx hb dJ8_append_5 rfl ?_
  refine lv_aload_n hx hb dJ8_append_6 rfl (lv_at hl 0 rfl) ?_
  have hP := hP.sub (ws' := [(B, .inr (3, [.ref V, .int (nI 0), .int (nI 0), .int (nI (o + n))])), (V, .inl (G 2, N, .inl f1)), (S, .inr (2, [.ref X, .int (nI 0), .int (nI 0), .int (nI 0)])), (X, .inl (G 2, n, .inl g))]) [0, 1, 2, 3] rfl
  have hD := hD.sub (ws' := [(B, .inr (3, [.ref V, .int (nI 0), .int (nI 0), .int (nI (o + n))])), (V, .inl (G 2, N, .inl f1)), (S, .inr (2, [.ref X, .int (nI 0), .int (nI 0), .int (nI 0)])), (X, .inl (G 2, n, .inl g))]) [0, 1, 2, 3] (by decide) rfl
  exact z_aret hx hb hr (Or.inl ⟨_, rfl⟩) hlocks f1 (hw) hP hD hS dJ8_append_7
set_option maxHeartbeats 4000000 in
set_option maxRecDepth 100000 in
theorem g_J7_getValue (l : Launch) (D : va_G) (G : Nat → Nat) {B V N cnt : Nat} {f : Nat → Int32} : zGet l yJ7_getValue cJ7_getValue 1 (Option.some (Jvm.ClassFile.FieldType.array Jvm.ClassFile.FieldType.byte)) ({ frames := 0, cells := 0, slots := 0, locals := 0 } : Room) D G [.ref B] [(B, .inr (3, [.ref V, .int (nI 0), .int (nI 0), .int (nI cnt)])), (V, .inl (G 2, N, .inl f))] (.ref V) := by
  refine z_gmet (by decide) (Nat.le_of_ble_eq_true rfl) ?_
  intro p e s m below meth c ls hx hb hr hml hown hlocks hts hK hP hS hG hl
  have hown : s.vm.findClass RJ7 = some m.cls := hown
  have hP : va_P D zCl [(B, .inr (3, [.ref V, .int (nI 0), .int (nI 0), .int (nI cnt)])), (V, .inl (G 2, N, .inl f))] s.heap := hP
  have hl : lv_has ls 1 [(0, .ref B)] := hl
  refine lv_aload_n hx hb dJ7_getValue_0 rfl (lv_at hl 0 rfl) ?_
  refine va_get (D := D) (ci := 3) (v := .ref V) (C := RJ8) (T := TJ8) (N := 4) hx hb hts in_J8 hown hK hP 0 rfl rfl 0 (by decide) (hts _ q260) (fun _ h9 => h9) rfl dJ7_getValue_1 ?_
  exact z_garet hx hb hr (Or.inr ⟨_, rfl⟩) (Or.inr ⟨_, rfl⟩) hlocks dJ7_getValue_4
set_option maxHeartbeats 4000000 in
set_option maxRecDepth 100000 in
theorem g_J7_length (l : Launch) (D : va_G) (G : Nat → Nat) {B V N cnt : Nat} {f : Nat → Int32} : zGet l yJ7_length cJ7_length 1 (Option.some Jvm.ClassFile.FieldType.int) ({ frames := 0, cells := 0, slots := 0, locals := 0 } : Room) D G [.ref B] [(B, .inr (3, [.ref V, .int (nI 0), .int (nI 0), .int (nI cnt)])), (V, .inl (G 2, N, .inl f))] (.int (nI cnt)) := by
  refine z_gmet (by decide) (Nat.le_of_ble_eq_true rfl) ?_
  intro p e s m below meth c ls hx hb hr hml hown hlocks hts hK hP hS hG hl
  have hown : s.vm.findClass RJ7 = some m.cls := hown
  have hP : va_P D zCl [(B, .inr (3, [.ref V, .int (nI 0), .int (nI 0), .int (nI cnt)])), (V, .inl (G 2, N, .inl f))] s.heap := hP
  have hl : lv_has ls 1 [(0, .ref B)] := hl
  refine lv_aload_n hx hb dJ7_length_0 rfl (lv_at hl 0 rfl) ?_
  refine va_get (D := D) (ci := 3) (v := .int (nI cnt)) (C := RJ8) (T := TJ8) (N := 4) hx hb hts in_J8 hown hK hP 0 rfl rfl 3 (by decide) (hts _ q264) (fun _ h9 => h9) rfl dJ7_length_1 ?_
  exact z_gret hx hb hr (rfl) hlocks dJ7_length_4
set_option maxHeartbeats 4000000 in
set_option maxRecDepth 100000 in
theorem g_J8_length (l : Launch) (D : va_G) (G : Nat → Nat) {B V N cnt : Nat} {f : Nat → Int32} : zGet l yJ8_length cJ8_length 1 (Option.some Jvm.ClassFile.FieldType.int) ({ frames := 1, cells := 0, slots := 0, locals := 20 } : Room) D G [.ref B] [(B, .inr (3, [.ref V, .int (nI 0), .int (nI 0), .int (nI cnt)])), (V, .inl (G 2, N, .inl f))] (.int (nI cnt)) := by
  refine z_gmet (by decide) (Nat.le_of_ble_eq_true rfl) ?_
  intro p e s m below meth c ls hx hb hr hml hown hlocks hts hK hP hS hG hl
  have hown : s.vm.findClass RJ8 = some m.cls := hown
  have hP : va_P D zCl [(B, .inr (3, [.ref V, .int (nI 0), .int (nI 0), .int (nI cnt)])), (V, .inl (G 2, N, .inl f))] s.heap := hP
  have hl : lv_has ls 1 [(0, .ref B)] := hl
  refine lv_aload_n hx hb dJ8_length_0 rfl (lv_at hl 0 rfl) ?_
  refine z_getc (va_runSU (hK.1 3 _ rfl).2 (As := []) (rest := []) ⟨hx, hb, hml, hown, hts⟩ (g_J7_length l D G ) (va_cwSU 0 hts (lw_app (z_su q389 q587 q273 q390 q13) (lw_meth q391)) rfl rfl rfl (by decide +kernel) ⟨Nat.le_of_ble_eq_true rfl, Nat.le_of_ble_eq_true rfl⟩) (z_preVg (z_rc hK hP 0 3 rfl rfl) (z_preSg hK hP hG hS [0, 1] rfl)) rfl rfl hl.1 rfl (lv_room (Nat.le_of_ble_eq_true rfl)) dJ8_length_1 ⟨Nat.le_of_ble_eq_true rfl, Nat.le_of_ble_eq_true rfl⟩) ?_
  exact z_gret hx hb hr (rfl) hlocks dJ8_length_4
set_option maxHeartbeats 4000000 in
set_option maxRecDepth 100000 in
theorem g_J7_isLatin1 (l : Launch) (D : va_G) (G : Nat → Nat) {B V N cnt : Nat} {f : Nat → Int32} : zGet l yJ7_isLatin1 cJ7_isLatin1 1 (Option.some Jvm.ClassFile.FieldType.boolean) ({ frames := 0, cells := 0, slots := 0, locals := 0 } : Room) D G [.ref B] [(B, .inr (3, [.ref V, .int (nI 0), .int (nI 0), .int (nI cnt)])), (V, .inl (G 2, N, .inl f))] (.int (nI 1)) := by
  refine z_gmet (by decide) (Nat.le_of_ble_eq_true rfl) ?_
  intro p e s m below meth c ls hx hb hr hml hown hlocks hts hK hP hS hG hl
  have hown : s.vm.findClass RJ7 = some m.cls := hown
  have hP : va_P D zCl [(B, .inr (3, [.ref V, .int (nI 0), .int (nI 0), .int (nI cnt)])), (V, .inl (G 2, N, .inl f))] s.heap := hP
  have hl : lv_has ls 1 [(0, .ref B)] := hl
  refine va_gets hx hb hG.compact hS hown (hts _ q258) (fun _ h9 => h9) dJ7_isLatin1_0 ?_
  refine lv_if_eq (tgt := 17) hx hb dJ7_isLatin1_3 (by decide) (fun c9 => absurd c9 (show ¬ nI 1 = 0 by decide)) (fun _ => ?_)
  refine lv_aload_n hx hb dJ7_isLatin1_6 rfl (lv_at hl 0 rfl) ?_
  refine va_get (D := D) (ci := 3) (v := .int (nI 0)) (C := RJ8) (T := TJ8) (N := 4) hx hb hts in_J8 hown hK hP 0 rfl rfl 1 (by decide) (hts _ q261) (fun _ h9 => h9) rfl dJ7_isLatin1_7 ?_
  refine lv_if_ne (tgt := 17) hx hb dJ7_isLatin1_10 (by decide) (fun c9 => absurd (show nI 0 = 0 by decide) c9) (fun _ => ?_)
  refine lv_iconst (v := nI 1) hx hb dJ7_isLatin1_13 (by decide) ?_
  refine lv_goto (tgt := 18) hx hb dJ7_isLatin1_14 (by decide) ?_
  exact z_gret hx hb hr (rfl) hlocks dJ7_isLatin1_18
set_option maxHeartbeats 4000000 in
set_option maxRecDepth 100000 in
theorem m_J11_cor (l : Launch) (D : va_G) (G : Nat → Nat) {V n : Nat} {f : Nat → Int32} {t : Nat → Nat} (hn : n ≤ 98) (hf : sb_Lat t n f) : zMet l yJ11_copyOfRange cJ11_copyOfRange 3 (Option.some (Jvm.ClassFile.FieldType.array Jvm.ClassFile.FieldType.byte)) ({ frames := 1, cells := 1, slots := 98, locals := 14 } : Room) D G [.ref V, .int (nI 0), .int (nI n)] [(V, .inl (G 2, n, .inl f))] (zQr D (fun (_ : Unit) => True) (fun _ X => [(V, .inl (G 2, n, .inl f)), (X, .inl (G 2, n, .inl f))])) 1 98 := by
  refine z_met (by decide) (Nat.le_of_ble_eq_true rfl) ?_
  intro p e s m below meth c A ls hx hb hr hml hown hlocks hin hts hK hP hD hS hA hG hl
  have hD : va_D A [(V, .inl (G 2, n, .inl f))] := hD
  have hown : s.vm.findClass RJ11 = some m.cls := hown
  have hP : va_P D zCl [(V, .inl (G 2, n, .inl f))] s.heap := hP
  have hl : lv_has ls 3 [(0, .ref V), (1, .int (nI 0)), (2, .int (nI n))] := hl
  refine lv_iload_n hx hb dJ11_copyOfRange_0 rfl (lv_at hl 1 rfl) ?_
  refine lv_if_ne (tgt := 10) hx hb dJ11_copyOfRange_1 (by decide) (fun c9 => absurd (show nI 0 = 0 by decide) c9) (fun _ => ?_)
  refine lv_iload_n hx hb dJ11_copyOfRange_4 rfl (lv_at hl 2 rfl) ?_
  refine lv_aload_n hx hb dJ11_copyOfRange_5 rfl (lv_at hl 0 rfl) ?_
  refine va_alen (v := nI n) hx hb hK hP 0 2 rfl rfl rfl dJ11_copyOfRange_6 ?_
  refine lv_icmp_eq (tgt := 17) hx hb dJ11_copyOfRange_7 (by decide) (fun _ => ?_) (fun c9 => absurd rfl c9)
  refine lv_aload_n hx hb dJ11_copyOfRange_17 rfl (lv_at hl 0 rfl) ?_
  refine va_clone hx hb (hml.trans hl.1.symm) hown (hts _ q307) (hts _ q308) (hts _ q309) (hts _ q310) (hts _ q311) hG.cln hK hP hD hS hA 0 2 rfl rfl (va_nm_byte (hK.2 2 _ rfl).2) (fun i v hv => ?_) (Nat.le_of_ble_eq_true rfl) (Nat.le_of_ble_eq_true rfl) (Nat.le_of_ble_eq_true rfl) (show 0 + n ≤ 98 by omega) dJ11_copyOfRange_18 (fun X H _ hP hD hS => ?_)
  · have hi : i < n := by
      have h9 := (Array.getElem?_eq_some_iff.mp hv).1
      simpa [vp_cell, arrV] using h9
    have e9 : (vp_cell (G 2) (n, .inl f)).slots[i]? = some (.int (f i)) := by
      simp [vp_cell, arrV, hi]
    rw [hv] at e9
    rw [Option.some.inj e9]
    exact z_latfit hf hi
  · have hP : va_P D zCl [(V, .inl (G 2, n, .inl f)), (X, .inl (G 2, n, .inl f))] H := hP
    have hD : va_D A [(V, .inl (G 2, n, .inl f)), (X, .inl (G 2, n, .inl f))] := hD
    refine W.widen (k := 1) (n := 98) (Nat.le_of_ble_eq_true rfl) (show 0 + n ≤ 98 by omega) ?_
    refine va_castA hx hb hown (hts _ q313) hP 1 rfl (va_nm_byte (hK.2 2 _ rfl).2) dJ11_copyOfRange_21 ?_
    have hP := hP.sub (ws' := [(V, .inl (G 2, n, .inl f)), (X, .inl (G 2, n, .inl f))]) [0, 1] rfl
    have hD := hD.sub (ws' := [(V, .inl (G 2, n, .inl f)), (X, .inl (G 2, n, .inl f))]) [0, 1] (by decide) rfl
    exact z_aret hx hb hr (Or.inr ⟨_, rfl⟩) hlocks () (trivial) hP hD hS dJ11_copyOfRange_24
set_option maxHeartbeats 4000000 in
set_option maxRecDepth 100000 in
theorem m_J0_init5 (l : Launch) (D : va_G) (G : Nat → Nat) {h0 B V n : Nat} {f : Nat → Int32} {t : Nat → Nat} (hn : n ≤ 98) (hf : sb_Lat t n f) : zMet l yJ0_init_5 cJ0_init_5 5 (Option.none : Option Jvm.ClassFile.FieldType) ({ frames := 2, cells := 1, slots := 98, locals := 40 } : Room) D G [.ref h0, .ref B, .null] [(h0, .inr (2, [.null, .int (nI 0), .int (nI 0), .int (nI 0)])), (B, .inr (3, [.ref V, .int (nI 0), .int (nI 0), .int (nI n)])), (V, .inl (G 2, n, .inl f))] (zQv D (fun (_ : Nat) => True) (fun X => [(h0, .inr (2, [.ref X, .int (nI 0), .int (nI 0), .int (nI 0)])), (B, .inr (3, [.ref V, .int (nI 0), .int (nI 0), .int (nI n)])), (V, .inl (G 2, n, .inl f)), (X, .inl (G 2, n, .inl f))])) 1 98 := by
  refine z_met (by decide) (Nat.le_of_ble_eq_true rfl) ?_
  intro p e s m below meth c A ls hx hb hr hml hown hlocks hin hts hK hP hD hS hA hG hl
  have hD : va_D A [(h0, .inr (2, [.null, .int (nI 0), .int (nI 0), .int (nI 0)])), (B, .inr (3, [.ref V, .int (nI 0), .int (nI 0), .int (nI n)])), (V, .inl (G 2, n, .inl f))] := hD
  have hown : s.vm.findClass RJ0 = some m.cls := hown
  have hP : va_P D zCl [(h0, .inr (2, [.null, .int (nI 0), .int (nI 0), .int (nI 0)])), (B, .inr (3, [.ref V, .int (nI 0), .int (nI 0), .int (nI n)])), (V, .inl (G 2, n, .inl f))] s.heap := hP
  have hl : lv_has ls 5 [(0, .ref h0), (1, .ref B), (2, .null)] := hl
  refine lv_aload_n hx hb dJ0_init_5_0 rfl (lv_at hl 0 rfl) ?_
  refine W.objInit hx hb hown (hts _ q72) (hts _ q26) (hts _ q27) rfl (by rw [hml]; exact hl.1) rfl dJ0_init_5_1 (Nat.le_of_ble_eq_true rfl) (Nat.le_of_ble_eq_true rfl) ?_
  refine W.eq (g2 := F0 m 4 ls []) rfl ?_
  refine lv_aload_n hx hb dJ0_init_5_4 rfl (lv_at hl 1 rfl) ?_
  refine z_getc (va_runU (As := []) (rest := []) ⟨hx, hb, hml, hown, hts⟩ (g_J7_getValue l D G ) (va_cwU (owner := RJ7) 0 hts (lw_app (z_un q503 q505 q506 q504 q13) (lw_meth q507)) rfl rfl rfl rfl (by decide +kernel) ⟨Nat.le_of_ble_eq_true rfl, Nat.le_of_ble_eq_true rfl⟩) (z_preVg (z_rc hK hP 1 3 rfl rfl) (z_preSg hK hP hG hS [1, 2] rfl)) rfl rfl hl.1 rfl (lv_room (Nat.le_of_ble_eq_true rfl)) dJ0_init_5_5 ⟨Nat.le_of_ble_eq_true rfl, Nat.le_of_ble_eq_true rfl⟩) ?_
  refine lv_astore_n (lv' := [(3, .ref V), (0, .ref h0), (1, .ref B), (2, .null)]) hx hb dJ0_init_5_8 rfl hl (by decide) rfl (fun ls hl => ?_)
  refine lv_aload_n hx hb dJ0_init_5_9 rfl (lv_at hl 2 rfl) ?_
  refine z_getc (va_runU (As := []) (rest := []) ⟨hx, hb, hml, hown, hts⟩ (g_J8_length l D G ) (va_cwO (owner := RJ7) 0 hts (lw_app (z_ov q508 q587 q390 q593 q386 q14) (lw_meth q388)) rfl rfl rfl q391 (by decide +kernel) ⟨Nat.le_of_ble_eq_true rfl, Nat.le_of_ble_eq_true rfl⟩) (z_preVg (z_rc hK hP 1 3 rfl rfl) (z_preSg hK hP hG hS [1, 2] rfl)) rfl rfl hl.1 rfl (lv_room (Nat.le_of_ble_eq_true rfl)) dJ0_init_5_10 ⟨Nat.le_of_ble_eq_true rfl, Nat.le_of_ble_eq_true rfl⟩) ?_
  refine lv_istore (lv' := [(4, .int (nI n)), (3, .ref V), (0, .ref h0), (1, .ref B), (2, .null)]) hx hb dJ0_init_5_13 hl (by decide) rfl (fun ls hl => ?_)
  refine lv_aload_n hx hb dJ0_init_5_15 rfl (lv_at hl 3 rfl) ?_
  refine z_getc (va_runU (As := []) (rest := []) ⟨hx, hb, hml, hown, hts⟩ (g_J7_isLatin1 l D G ) (va_cwU (owner := RJ7) 0 hts (lw_app (z_un q509 q322 q323 q321 q13) (lw_meth q324)) rfl rfl rfl rfl (by decide +kernel) ⟨Nat.le_of_ble_eq_true rfl, Nat.le_of_ble_eq_true rfl⟩) (z_preVg (z_rc hK hP 1 3 rfl rfl) (z_preSg hK hP hG hS [1, 2] rfl)) rfl rfl hl.1 rfl (lv_room (Nat.le_of_ble_eq_true rfl)) dJ0_init_5_16 ⟨Nat.le_of_ble_eq_true rfl, Nat.le_of_ble_eq_true rfl⟩) ?_
  refine lv_if_eq (tgt := 41) hx hb dJ0_init_5_19 (by decide) (fun c9 => absurd c9 (show ¬ nI 1 = 0 by decide)) (fun _ => ?_)
  refine lv_aload_n hx hb dJ0_init_5_22 rfl (lv_at hl 2 rfl) ?_
  refine lv_iconst (v := nI 0) hx hb dJ0_init_5_23 (by decide) ?_
  refine va_putF (D := D) (ci := 2) (v := .int (nI 0)) (ty := .byte) (C := RJ0) (T := TJ0) (N := 4) hx hb hts in_J0 tyJ0 tyJ0_ok nmJ0 hown hK hP hD hS 0 rfl rfl 1 (by decide) (hts _ q119) (fun _ h9 => h9) rfl hin rfl (by decide +kernel) rfl rfl (Nat.le_of_ble_eq_true rfl) dJ0_init_5_24 (fun H locs hP hD hS => ?_)
  have hP : va_P D zCl [(h0, .inr (2, [.null, .int (nI 0), .int (nI 0), .int (nI 0)])), (B, .inr (3, [.ref V, .int (nI 0), .int (nI 0), .int (nI n)])), (V, .inl (G 2, n, .inl f))] H := hP
  have hD : va_D A [(h0, .inr (2, [.null, .int (nI 0), .int (nI 0), .int (nI 0)])), (B, .inr (3, [.ref V, .int (nI 0), .int (nI 0), .int (nI n)])), (V, .inl (G 2, n, .inl f))] := hD
  refine lv_aload_n hx hb dJ0_init_5_27 rfl (lv_at hl 2 rfl) ?_
  refine lv_aload_n hx hb dJ0_init_5_28 rfl (lv_at hl 1 rfl) ?_
  refine lv_iconst (v := nI 0) hx hb dJ0_init_5_29 (by decide) ?_
  refine lv_iload hx hb dJ0_init_5_30 (lv_at hl 0 rfl) ?_
  refine z_callr (wr := [(h0, .inr (2, [.null, .int (nI 0), .int (nI 0), .int (nI 0)])), (B, .inr (3, [.ref V, .int (nI 0), .int (nI 0), .int (nI n)]))]) (va_runS (As := [.ref V, .int (nI 0), .int (nI n)]) (rest := [.ref h0]) ⟨hx, hb, hml, hown, hts⟩ (m_J11_cor l D G hn hf H.size) (va_cwS 3 hts (lw_S q510 q511 q17 q512) rfl rfl rfl (by decide +kernel) ⟨Nat.le_of_ble_eq_true rfl, Nat.le_of_ble_eq_true rfl⟩) (z_preS hK hP hD hG hS hA [2] rfl (by decide)) rfl rfl hl.1 rfl (lv_room (Nat.le_of_ble_eq_true rfl)) dJ0_init_5_32 ⟨Nat.le_of_ble_eq_true rfl, Nat.le_of_ble_eq_true rfl⟩) hP hD hS hA [2] [0, 1] rfl rfl (by decide) (by decide) (fun u X H locs hw hP hD hS => ?_)
  have hP : va_P D zCl [(h0, .inr (2, [.null, .int (nI 0), .int (nI 0), .int (nI 0)])), (B, .inr (3, [.ref V, .int (nI 0), .int (nI 0), .int (nI n)])), (V, .inl (G 2, n, .inl f)), (X, .inl (G 2, n, .inl f))] H := hP
  have hD : va_D A [(h0, .inr (2, [.null, .int (nI 0), .int (nI 0), .int (nI 0)])), (B, .inr (3, [.ref V, .int (nI 0), .int (nI 0), .int (nI n)])), (V, .inl (G 2, n, .inl f)), (X, .inl (G 2, n, .inl f))] := hD
  refine va_putF (D := D) (ci := 2) (v := .ref X) (ty := .array .byte) (C := RJ0) (T := TJ0) (N := 4) hx hb hts in_J0 tyJ0 tyJ0_ok nmJ0 hown hK hP hD hS 0 rfl rfl 0 (by decide) (hts _ q118) (fun _ h9 => h9) rfl hin rfl (by decide +kernel) rfl rfl (Nat.le_of_ble_eq_true rfl) dJ0_init_5_35 (fun H locs hP hD hS => ?_)
  have hP : va_P D zCl [(h0, .inr (2, [.ref X, .int (nI 0), .int (nI 0), .int (nI 0)])), (B, .inr (3, [.ref V, .int (nI 0), .int (nI 0), .int (nI n)])), (V, .inl (G 2, n, .inl f)), (X, .inl (G 2, n, .inl f))] H := hP
  have hD : va_D A [(h0, .inr (2, [.ref X, .int (nI 0), .int (nI 0), .int (nI 0)])), (B, .inr (3, [.ref V, .int (nI 0), .int (nI 0), .int (nI n)])), (V, .inl (G 2, n, .inl f)), (X, .inl (G 2, n, .inl f))] := hD
  refine lv_goto (tgt := 97) hx hb dJ0_init_5_38 (by decide) ?_
  have hP := hP.sub (ws' := [(h0, .inr (2, [.ref X, .int (nI 0), .int (nI 0), .int (nI 0)])), (B, .inr (3, [.ref V, .int (nI 0), .int (nI 0), .int (nI n)])), (V, .inl (G 2, n, .inl f)), (X, .inl (G 2, n, .inl f))]) [0, 1, 2, 3] rfl
  have hD := hD.sub (ws' := [(h0, .inr (2, [.ref X, .int (nI 0), .int (nI 0), .int (nI 0)])), (B, .inr (3, [.ref V, .int (nI 0), .int (nI 0), .int (nI n)])), (V, .inl (G 2, n, .inl f)), (X, .inl (G 2, n, .inl f))]) [0, 1, 2, 3] (by decide) rfl
  exact z_vret hx hb hr hlocks X (trivial) hP hD hS dJ0_init_5_97
set_option maxHeartbeats 4000000 in
set_option maxRecDepth 100000 in
theorem m_J0_init4 (l : Launch) (D : va_G) (G : Nat → Nat) {h0 B V n : Nat} {f : Nat → Int32} {t : Nat → Nat} (hn : n ≤ 98) (hf : sb_Lat t n f) : zMet l yJ0_init_4 cJ0_init_4 2 (Option.none : Option Jvm.ClassFile.FieldType) ({ frames := 3, cells := 1, slots := 98, locals := 64 } : Room) D G [.ref h0, .ref B] [(h0, .inr (2, [.null, .int (nI 0), .int (nI 0), .int (nI 0)])), (B, .inr (3, [.ref V, .int (nI 0), .int (nI 0), .int (nI n)])), (V, .inl (G 2, n, .inl f))] (zQv D (fun (_ : Nat) => True) (fun X => [(h0, .inr (2, [.ref X, .int (nI 0), .int (nI 0), .int (nI 0)])), (B, .inr (3, [.ref V, .int (nI 0), .int (nI 0), .int (nI n)])), (V, .inl (G 2, n, .inl f)), (X, .inl (G 2, n, .inl f))])) 1 98 := by
  refine z_met (by decide) (Nat.le_of_ble_eq_true rfl) ?_
  intro p e s m below meth c A ls hx hb hr hml hown hlocks hin hts hK hP hD hS hA hG hl
  have hD : va_D A [(h0, .inr (2, [.null, .int (nI 0), .int (nI 0), .int (nI 0)])), (B, .inr (3, [.ref V, .int (nI 0), .int (nI 0), .int (nI n)])), (V, .inl (G 2, n, .inl f))] := hD
  have hown : s.vm.findClass RJ0 = some m.cls := hown
  have hP : va_P D zCl [(h0, .inr (2, [.null, .int (nI 0), .int (nI 0), .int (nI 0)])), (B, .inr (3, [.ref V, .int (nI 0), .int (nI 0), .int (nI n)])), (V, .inl (G 2, n, .inl f))] s.heap := hP
  have hl : lv_has ls 2 [(0, .ref h0), (1, .ref B)] := hl
  refine lv_aload_n hx hb dJ0_init_4_0 rfl (lv_at hl 0 rfl) ?_
  refine lv_aload_n hx hb dJ0_init_4_1 rfl (lv_at hl 1 rfl) ?_
  refine lv_null hx hb dJ0_init_4_2 ?_
  refine z_callv (wr := []) (va_runI (As := [.ref B, .null]) (rest := []) ⟨hx, hb, hml, hown, hts⟩ (m_J0_init5 l D G hn hf s.heap.size) (cwI 2 hts (lw_meth q502) rfl rfl rfl (hts _ q4) (hts _ q500) (hts _ q501) rfl (by decide +kernel) ⟨Nat.le_of_ble_eq_true rfl, Nat.le_of_ble_eq_true rfl⟩) (z_preS hK hP hD hG hS hA [0, 1, 2] rfl (by decide)) rfl rfl hl.1 rfl (lv_room (Nat.le_of_ble_eq_true rfl)) dJ0_init_4_3 ⟨Nat.le_of_ble_eq_true rfl, Nat.le_of_ble_eq_true rfl⟩) hP hD hS hA [0, 1, 2] [] rfl rfl (by decide) (by decide) (fun X H locs hw hP hD hS => ?_)
  have hP : va_P D zCl [(h0, .inr (2, [.ref X, .int (nI 0), .int (nI 0), .int (nI 0)])), (B, .inr (3, [.ref V, .int (nI 0), .int (nI 0), .int (nI n)])), (V, .inl (G 2, n, .inl f)), (X, .inl (G 2, n, .inl f))] H := hP
  have hD : va_D A [(h0, .inr (2, [.ref X, .int (nI 0), .int (nI 0), .int (nI 0)])), (B, .inr (3, [.ref V, .int (nI 0), .int (nI 0), .int (nI n)])), (V, .inl (G 2, n, .inl f)), (X, .inl (G 2, n, .inl f))] := hD
  have hP := hP.sub (ws' := [(h0, .inr (2, [.ref X, .int (nI 0), .int (nI 0), .int (nI 0)])), (B, .inr (3, [.ref V, .int (nI 0), .int (nI 0), .int (nI n)])), (V, .inl (G 2, n, .inl f)), (X, .inl (G 2, n, .inl f))]) [0, 1, 2, 3] rfl
  have hD := hD.sub (ws' := [(h0, .inr (2, [.ref X, .int (nI 0), .int (nI 0), .int (nI 0)])), (B, .inr (3, [.ref V, .int (nI 0), .int (nI 0), .int (nI n)])), (V, .inl (G 2, n, .inl f)), (X, .inl (G 2, n, .inl f))]) [0, 1, 2, 3] (by decide) rfl
  exact z_vret hx hb hr hlocks X (trivial) hP hD hS dJ0_init_4_6
set_option maxHeartbeats 4000000 in
set_option maxRecDepth 100000 in
theorem m_J8_toString (l : Launch) (D : va_G) (G : Nat → Nat) {B V n : Nat} {f : Nat → Int32} {t : Nat → Nat} (hn : n ≤ 98) (hf : sb_Lat t n f) : zMet l yJ8_toString cJ8_toString 1 (Option.some (Jvm.ClassFile.FieldType.object "java/lang/String")) ({ frames := 4, cells := 2, slots := 102, locals := 85 } : Room) D G [.ref B] [(B, .inr (3, [.ref V, .int (nI 0), .int (nI 0), .int (nI n)])), (V, .inl (G 2, n, .inl f))] (zQr D (fun (_ : Nat) => True) (fun X h0 => [(h0, .inr (2, [.ref X, .int (nI 0), .int (nI 0), .int (nI 0)])), (X, .inl (G 2, n, .inl f)), (B, .inr (3, [.ref V, .int (nI 0), .int (nI 0), .int (nI n)])), (V, .inl (G 2, n, .inl f))])) 2 102 := by
  refine z_met (by decide) (Nat.le_of_ble_eq_true rfl) ?_
  intro p e s m below meth c A ls hx hb hr hml hown hlocks hin hts hK hP hD hS hA hG hl
  have hD : va_D A [(B, .inr (3, [.ref V, .int (nI 0), .int (nI 0), .int (nI n)])), (V, .inl (G 2, n, .inl f))] := hD
  have hown : s.vm.findClass RJ8 = some m.cls := hown
  have hP : va_P D zCl [(B, .inr (3, [.ref V, .int (nI 0), .int (nI 0), .int (nI n)])), (V, .inl (G 2, n, .inl f))] s.heap := hP
  have hl : lv_has ls 1 [(0, .ref B)] := hl
  refine va_new (ci := 2) (fs := [.null, .int (nI 0), .int (nI 0), .int (nI 0)]) (C := RJ0) (T := TJ0) (N := 4) hx hb hts in_J0 tyJ0 tyJ0_ok hown (hts _ q496) (hts _ q52) (hts _ q4) hK hP hD hS hA rfl (fun j hj => by rcases (show j = 0 ∨ j = 1 ∨ j = 2 ∨ j = 3 by omega) with rfl | rfl | rfl | rfl <;> rfl) (Nat.le_of_ble_eq_true rfl) (Nat.le_of_ble_eq_true rfl) dJ8_toString_0 (fun h0 H hP hD hS => ?_)
  have hP : va_P D zCl [(B, .inr (3, [.ref V, .int (nI 0), .int (nI 0), .int (nI n)])), (V, .inl (G 2, n, .inl f)), (h0, .inr (2, [.null, .int (nI 0), .int (nI 0), .int (nI 0)]))] H := hP
  have hD : va_D A [(B, .inr (3, [.ref V, .int (nI 0), .int (nI 0), .int (nI n)])), (V, .inl (G 2, n, .inl f)), (h0, .inr (2, [.null, .int (nI 0), .int (nI 0), .int (nI 0)]))] := hD
  refine W.widen (k := 1) (n := 4) (Nat.le_of_ble_eq_true rfl) (Nat.le_of_ble_eq_true rfl) ?_
  refine lv_dup hx hb dJ8_toString_3 rfl ?_
  refine lv_aload_n hx hb dJ8_toString_4 rfl (lv_at hl 0 rfl) ?_
  refine z_callv (wr := []) (va_runI (As := [.ref B]) (rest := [.ref h0]) ⟨hx, hb, hml, hown, hts⟩ (m_J0_init4 l D G hn hf H.size) (cwI 1 hts (lw_meth q499) rfl rfl rfl (hts _ q4) (hts _ q497) (hts _ q498) rfl (by decide +kernel) ⟨Nat.le_of_ble_eq_true rfl, Nat.le_of_ble_eq_true rfl⟩) (z_preS hK hP hD hG hS hA [2, 0, 1] rfl (by decide)) rfl rfl hl.1 rfl (lv_room (Nat.le_of_ble_eq_true rfl)) dJ8_toString_5 ⟨Nat.le_of_ble_eq_true rfl, Nat.le_of_ble_eq_true rfl⟩) hP hD hS hA [2, 0, 1] [] rfl rfl (by decide) (by decide) (fun X H locs hw hP hD hS => ?_)
  have hP : va_P D zCl [(h0, .inr (2, [.ref X, .int (nI 0), .int (nI 0), .int (nI 0)])), (B, .inr (3, [.ref V, .int (nI 0), .int (nI 0), .int (nI n)])), (V, .inl (G 2, n, .inl f)), (X, .inl (G 2, n, .inl f))] H := hP
  have hD : va_D A [(h0, .inr (2, [.ref X, .int (nI 0), .int (nI 0), .int (nI 0)])), (B, .inr (3, [.ref V, .int (nI 0), .int (nI 0), .int (nI n)])), (V, .inl (G 2, n, .inl f)), (X, .inl (G 2, n, .inl f))] := hD
  have hP := hP.sub (ws' := [(h0, .inr (2, [.ref X, .int (nI 0), .int (nI 0), .int (nI 0)])), (X, .inl (G 2, n, .inl f)), (B, .inr (3, [.ref V, .int (nI 0), .int (nI 0), .int (nI n)])), (V, .inl (G 2, n, .inl f))]) [0, 3, 1, 2] rfl
  have hD := hD.sub (ws' := [(h0, .inr (2, [.ref X, .int (nI 0), .int (nI 0), .int (nI 0)])), (X, .inl (G 2, n, .inl f)), (B, .inr (3, [.ref V, .int (nI 0), .int (nI 0), .int (nI n)])), (V, .inl (G 2, n, .inl f))]) [0, 3, 1, 2] (by decide) rfl
  exact z_aret hx hb hr (Or.inl ⟨_, rfl⟩) hlocks X (trivial) hP hD hS dJ8_toString_8
end
section
/-! SymbolInfo; ErrorCorrection -/
set_option maxHeartbeats 4000000 in
set_option maxRecDepth 100000 in
theorem m_X2_init8 (l : Launch) (D : va_G) (G : Nat → Nat) {h r w9 : Nat} : zMet l yX2_init_2 cX2_init_2 9 (Option.none : Option Jvm.ClassFile.FieldType) ({ frames := 1, cells := 0, slots := 0, locals := 12 } : Room) D G [.ref h, .int (nI 0), .int (nI r), .int (nI w9), .int (nI 8), .int (nI 8), .int (nI 1), .int (nI r), .int (nI w9)] [(h, .inr (4, [.int (nI 0), .int (nI 0), .int (nI 0), .int (nI 0), .int (nI 0), .int (nI 0), .int (nI 0), .int (nI 0)]))] (zQv D (fun (_ : Unit) => True) (fun _ => [(h, .inr (4, [.int (nI 0), .int (nI r), .int (nI w9), .int (nI 8), .int (nI 8), .int (nI 1), .int (nI r), .int (nI w9)]))])) 0 0 := by
  refine z_met (by decide) (Nat.le_of_ble_eq_true rfl) ?_
  intro p e s m below meth c A ls hx hb hr hml hown hlocks hin hts hK hP hD hS hA hG hl
  have hD : va_D A [(h, .inr (4, [.int (nI 0), .int (nI 0), .int (nI 0), .int (nI 0), .int (nI 0), .int (nI 0), .int (nI 0), .int (nI 0)]))] := hD
  have hown : s.vm.findClass RX2 = some m.cls := hown
  have hP : va_P D zCl [(h, .inr (4, [.int (nI 0), .int (nI 0), .int (nI 0), .int (nI 0), .int (nI 0), .int (nI 0), .int (nI 0), .int (nI 0)]))] s.heap := hP
  have hl : lv_has ls 9 [(0, .ref h), (1, .int (nI 0)), (2, .int (nI r)), (3, .int (nI w9)), (4, .int (nI 8)), (5, .int (nI 8)), (6, .int (nI 1)), (7, .int (nI r)), (8, .int (nI w9))] := hl
  refine lv_aload_n hx hb dX2_init_2_0 rfl (lv_at hl 0 rfl) ?_
  refine W.objInit hx hb hown (hts _ q139) (hts _ q26) (hts _ q27) rfl (by rw [hml]; exact hl.1) rfl dX2_init_2_1 (Nat.le_of_ble_eq_true rfl) (Nat.le_of_ble_eq_true rfl) ?_
  refine W.eq (g2 := F0 m 4 ls []) rfl ?_
  refine lv_aload_n hx hb dX2_init_2_4 rfl (lv_at hl 0 rfl) ?_
  refine lv_iload_n hx hb dX2_init_2_5 rfl (lv_at hl 1 rfl) ?_
  refine va_putF (D := D) (ci := 4) (v := .int (nI 0)) (ty := .boolean) (C := RX2) (T := TX2) (N := 8) hx hb hts in_X2 tyX2 tyX2_ok nmX2 hown hK hP hD hS 0 rfl rfl 0 (by decide) (hts _ q140) (fun _ h9 => h9) rfl hin rfl (by decide +kernel) rfl rfl (Nat.le_of_ble_eq_true rfl) dX2_init_2_6 (fun H locs hP hD hS => ?_)
  have hP : va_P D zCl [(h, .inr (4, [.int (nI 0), .int (nI 0), .int (nI 0), .int (nI 0), .int (nI 0), .int (nI 0), .int (nI 0), .int (nI 0)]))] H := hP
  have hD : va_D A [(h, .inr (4, [.int (nI 0), .int (nI 0), .int (nI 0), .int (nI 0), .int (nI 0), .int (nI 0), .int (nI 0), .int (nI 0)]))] := hD
  refine lv_aload_n hx hb dX2_init_2_9 rfl (lv_at hl 0 rfl) ?_
  refine lv_iload_n hx hb dX2_init_2_10 rfl (lv_at hl 2 rfl) ?_
  refine va_putF (D := D) (ci := 4) (v := .int (nI r)) (ty := .int) (C := RX2) (T := TX2) (N := 8) hx hb hts in_X2 tyX2 tyX2_ok nmX2 hown hK hP hD hS 0 rfl rfl 1 (by decide) (hts _ q141) (fun _ h9 => h9) rfl hin rfl (by decide +kernel) rfl rfl (Nat.le_of_ble_eq_true rfl) dX2_init_2_11 (fun H locs hP hD hS => ?_)
  have hP : va_P D zCl [(h, .inr (4, [.int (nI 0), .int (nI r), .int (nI 0), .int (nI 0), .int (nI 0), .int (nI 0), .int (nI 0), .int (nI 0)]))] H := hP
  have hD : va_D A [(h, .inr (4, [.int (nI 0), .int (nI r), .int (nI 0), .int (nI 0), .int (nI 0), .int (nI 0), .int (nI 0), .int (nI 0)]))] := hD
  refine lv_aload_n hx hb dX2_init_2_14 rfl (lv_at hl 0 rfl) ?_
  refine lv_iload_n hx hb dX2_init_2_15 rfl (lv_at hl 3 rfl) ?_
  refine va_putF (D := D) (ci := 4) (v := .int (nI w9)) (ty := .int) (C := RX2) (T := TX2) (N := 8) hx hb hts in_X2 tyX2 tyX2_ok nmX2 hown hK hP hD hS 0 rfl rfl 2 (by decide) (hts _ q142) (fun _ h9 => h9) rfl hin rfl (by decide +kernel) rfl rfl (Nat.le_of_ble_eq_true rfl) dX2_init_2_16 (fun H locs hP hD hS => ?_)
  have hP : va_P D zCl [(h, .inr (4, [.int (nI 0), .int (nI r), .int (nI w9), .int (nI 0), .int (nI 0), .int (nI 0), .int (nI 0), .int (nI 0)]))] H := hP
  have hD : va_D A [(h, .inr (4, [.int (nI 0), .int (nI r), .int (nI w9), .int (nI 0), .int (nI 0), .int (nI 0), .int (nI 0), .int (nI 0)]))] := hD
  refine lv_aload_n hx hb dX2_init_2_19 rfl (lv_at hl 0 rfl) ?_
  refine lv_iload hx hb dX2_init_2_20 (lv_at hl 4 rfl) ?_
  refine va_putF (D := D) (ci := 4) (v := .int (nI 8)) (ty := .int) (C := RX2) (T := TX2) (N := 8) hx hb hts in_X2 tyX2 tyX2_ok nmX2 hown hK hP hD hS 0 rfl rfl 3 (by decide) (hts _ q143) (fun _ h9 => h9) rfl hin rfl (by decide +kernel) rfl rfl (Nat.le_of_ble_eq_true rfl) dX2_init_2_22 (fun H locs hP hD hS => ?_)
  have hP : va_P D zCl [(h, .inr (4, [.int (nI 0), .int (nI r), .int (nI w9), .int (nI 8), .int (nI 0), .int (nI 0), .int (nI 0), .int (nI 0)]))] H := hP
  have hD : va_D A [(h, .inr (4, [.int (nI 0), .int (nI r), .int (nI w9), .int (nI 8), .int (nI 0), .int (nI 0), .int (nI 0), .int (nI 0)]))] := hD
  refine lv_aload_n hx hb dX2_init_2_25 rfl (lv_at hl 0 rfl) ?_
  refine lv_iload hx hb dX2_init_2_26 (lv_at hl 5 rfl) ?_
  refine va_putF (D := D) (ci := 4) (v := .int (nI 8)) (ty := .int) (C := RX2) (T := TX2) (N := 8) hx hb hts in_X2 tyX2 tyX2_ok nmX2 hown hK hP hD hS 0 rfl rfl 4 (by decide) (hts _ q144) (fun _ h9 => h9) rfl hin rfl (by decide +kernel) rfl rfl (Nat.le_of_ble_eq_true rfl) dX2_init_2_28 (fun H locs hP hD hS => ?_)
  have hP : va_P D zCl [(h, .inr (4, [.int (nI 0), .int (nI r), .int (nI w9), .int (nI 8), .int (nI 8), .int (nI 0), .int (nI 0), .int (nI 0)]))] H := hP
  have hD : va_D A [(h, .inr (4, [.int (nI 0), .int (nI r), .int (nI w9), .int (nI 8), .int (nI 8), .int (nI 0), .int (nI 0), .int (nI 0)]))] := hD
  refine lv_aload_n hx hb dX2_init_2_31 rfl (lv_at hl 0 rfl) ?_
  refine lv_iload hx hb dX2_init_2_32 (lv_at hl 6 rfl) ?_
  refine va_putF (D := D) (ci := 4) (v := .int (nI 1)) (ty := .int) (C := RX2) (T := TX2) (N := 8) hx hb hts in_X2 tyX2 tyX2_ok nmX2 hown hK hP hD hS 0 rfl rfl 5 (by decide) (hts _ q145) (fun _ h9 => h9) rfl hin rfl (by decide +kernel) rfl rfl (Nat.le_of_ble_eq_true rfl) dX2_init_2_34 (fun H locs hP hD hS => ?_)
  have hP : va_P D zCl [(h, .inr (4, [.int (nI 0), .int (nI r), .int (nI w9), .int (nI 8), .int (nI 8), .int (nI 1), .int (nI 0), .int (nI 0)]))] H := hP
  have hD : va_D A [(h, .inr (4, [.int (nI 0), .int (nI r), .int (nI w9), .int (nI 8), .int (nI 8), .int (nI 1), .int (nI 0), .int (nI 0)]))] := hD
  refine lv_aload_n hx hb dX2_init_2_37 rfl (lv_at hl 0 rfl) ?_
  refine lv_iload hx hb dX2_init_2_38 (lv_at hl 7 rfl) ?_
  refine va_putF (D := D) (ci := 4) (v := .int (nI r)) (ty := .int) (C := RX2) (T := TX2) (N := 8) hx hb hts in_X2 tyX2 tyX2_ok nmX2 hown hK hP hD hS 0 rfl rfl 6 (by decide) (hts _ q146) (fun _ h9 => h9) rfl hin rfl (by decide +kernel) rfl rfl (Nat.le_of_ble_eq_true rfl) dX2_init_2_40 (fun H locs hP hD hS => ?_)
  have hP : va_P D zCl [(h, .inr (4, [.int (nI 0), .int (nI r), .int (nI w9), .int (nI 8), .int (nI 8), .int (nI 1), .int (nI r), .int (nI 0)]))] H := hP
  have hD : va_D A [(h, .inr (4, [.int (nI 0), .int (nI r), .int (nI w9), .int (nI 8), .int (nI 8), .int (nI 1), .int (nI r), .int (nI 0)]))] := hD
  refine lv_aload_n hx hb dX2_init_2_43 rfl (lv_at hl 0 rfl) ?_
  refine lv_iload hx hb dX2_init_2_44 (lv_at hl 8 rfl) ?_
  refine va_putF (D := D) (ci := 4) (v := .int (nI w9)) (ty := .int) (C := RX2) (T := TX2) (N := 8) hx hb hts in_X2 tyX2 tyX2_ok nmX2 hown hK hP hD hS 0 rfl rfl 7 (by decide) (hts _ q147) (fun _ h9 => h9) rfl hin rfl (by decide +kernel) rfl rfl (Nat.le_of_ble_eq_true rfl) dX2_init_2_46 (fun H locs hP hD hS => ?_)
  have hP : va_P D zCl [(h, .inr (4, [.int (nI 0), .int (nI r), .int (nI w9), .int (nI 8), .int (nI 8), .int (nI 1), .int (nI r), .int (nI w9)]))] H := hP
  have hD : va_D A [(h, .inr (4, [.int (nI 0), .int (nI r), .int (nI w9), .int (nI 8), .int (nI 8), .int (nI 1), .int (nI r), .int (nI w9)]))] := hD
  have hP := hP.sub (ws' := [(h, .inr (4, [.int (nI 0), .int (nI r), .int (nI w9), .int (nI 8), .int (nI 8), .int (nI 1), .int (nI r), .int (nI w9)]))]) [0] rfl
  have hD := hD.sub (ws' := [(h, .inr (4, [.int (nI 0), .int (nI r), .int (nI w9), .int (nI 8), .int (nI 8), .int (nI 1), .int (nI r), .int (nI w9)]))]) [0] (by decide) rfl
  exact z_vret hx hb hr hlocks () (trivial) hP hD hS dX2_init_2_49
set_option maxHeartbeats 4000000 in
set_option maxRecDepth 100000 in
theorem m_X2_init6 (l : Launch) (D : va_G) (G : Nat → Nat) {h r w9 : Nat} : zMet l yX2_init cX2_init 7 (Option.none : Option Jvm.ClassFile.FieldType) ({ frames := 2, cells := 0, slots := 0, locals := 40 } : Room) D G [.ref h, .int (nI 0), .int (nI r), .int (nI w9), .int (nI 8), .int (nI 8), .int (nI 1)] [(h, .inr (4, [.int (nI 0), .int (nI 0), .int (nI 0), .int (nI 0), .int (nI 0), .int (nI 0), .int (nI 0), .int (nI 0)]))] (zQv D (fun (_ : Unit) => True) (fun _ => [(h, .inr (4, [.int (nI 0), .int (nI r), .int (nI w9), .int (nI 8), .int (nI 8), .int (nI 1), .int (nI r), .int (nI w9)]))])) 0 0 := by
  refine z_met (by decide) (Nat.le_of_ble_eq_true rfl) ?_
  intro p e s m below meth c A ls hx hb hr hml hown hlocks hin hts hK hP hD hS hA hG hl
  have hD : va_D A [(h, .inr (4, [.int (nI 0), .int (nI 0), .int (nI 0), .int (nI 0), .int (nI 0), .int (nI 0), .int (nI 0), .int (nI 0)]))] := hD
  have hown : s.vm.findClass RX2 = some m.cls := hown
  have hP : va_P D zCl [(h, .inr (4, [.int (nI 0), .int (nI 0), .int (nI 0), .int (nI 0), .int (nI 0), .int (nI 0), .int (nI 0), .int (nI 0)]))] s.heap := hP
  have hl : lv_has ls 7 [(0, .ref h), (1, .int (nI 0)), (2, .int (nI r)), (3, .int (nI w9)), (4, .int (nI 8)), (5, .int (nI 8)), (6, .int (nI 1))] := hl
  refine lv_aload_n hx hb dX2_init_0 rfl (lv_at hl 0 rfl) ?_
  refine lv_iload_n hx hb dX2_init_1 rfl (lv_at hl 1 rfl) ?_
  refine lv_iload_n hx hb dX2_init_2 rfl (lv_at hl 2 rfl) ?_
  refine lv_iload_n hx hb dX2_init_3 rfl (lv_at hl 3 rfl) ?_
  refine lv_iload hx hb dX2_init_4 (lv_at hl 4 rfl) ?_
  refine lv_iload hx hb dX2_init_6 (lv_at hl 5 rfl) ?_
  refine lv_iload hx hb dX2_init_8 (lv_at hl 6 rfl) ?_
  refine lv_iload_n hx hb dX2_init_10 rfl (lv_at hl 2 rfl) ?_
  refine lv_iload_n hx hb dX2_init_11 rfl (lv_at hl 3 rfl) ?_
  refine z_callv (wr := []) (va_runI (As := [.int (nI 0), .int (nI r), .int (nI w9), .int (nI 8), .int (nI 8), .int (nI 1), .int (nI r), .int (nI w9)]) (rest := []) ⟨hx, hb, hml, hown, hts⟩ (m_X2_init8 l D G  s.heap.size) (cwI 8 hts (lw_meth q138) rfl rfl rfl (hts _ q7) (hts _ q136) (hts _ q137) rfl (by decide +kernel) ⟨Nat.le_of_ble_eq_true rfl, Nat.le_of_ble_eq_true rfl⟩) (z_preS hK hP hD hG hS hA [0] rfl (by decide)) rfl rfl hl.1 rfl (lv_room (Nat.le_of_ble_eq_true rfl)) dX2_init_12 ⟨Nat.le_of_ble_eq_true rfl, Nat.le_of_ble_eq_true rfl⟩) hP hD hS hA [0] [] rfl rfl (by decide) (by decide) (fun u H locs hw hP hD hS => ?_)
  have hP : va_P D zCl [(h, .inr (4, [.int (nI 0), .int (nI r), .int (nI w9), .int (nI 8), .int (nI 8), .int (nI 1), .int (nI r), .int (nI w9)]))] H := hP
  have hD : va_D A [(h, .inr (4, [.int (nI 0), .int (nI r), .int (nI w9), .int (nI 8), .int (nI 8), .int (nI 1), .int (nI r), .int (nI w9)]))] := hD
  have hP := hP.sub (ws' := [(h, .inr (4, [.int (nI 0), .int (nI r), .int (nI w9), .int (nI 8), .int (nI 8), .int (nI 1), .int (nI r), .int (nI w9)]))]) [0] rfl
  have hD := hD.sub (ws' := [(h, .inr (4, [.int (nI 0), .int (nI r), .int (nI w9), .int (nI 8), .int (nI 8), .int (nI 1), .int (nI r), .int (nI w9)]))]) [0] (by decide) rfl
  exact z_vret hx hb hr hlocks () (trivial) hP hD hS dX2_init_15
set_option maxHeartbeats 4000000 in
set_option maxRecDepth 100000 in
theorem g_X2_cap (l : Launch) (D : va_G) (G : Nat → Nat) {h r w9 : Nat} : zGet l yX2_getDataCapacity cX2_getDataCapacity 1 (Option.some Jvm.ClassFile.FieldType.int) ({ frames := 0, cells := 0, slots := 0, locals := 0 } : Room) D G [.ref h] [(h, .inr (4, [.int (nI 0), .int (nI r), .int (nI w9), .int (nI 8), .int (nI 8), .int (nI 1), .int (nI r), .int (nI w9)]))] (.int (nI r)) := by
  refine z_gmet (by decide) (Nat.le_of_ble_eq_true rfl) ?_
  intro p e s m below meth c ls hx hb hr hml hown hlocks hts hK hP hS hG hl
  have hown : s.vm.findClass RX2 = some m.cls := hown
  have hP : va_P D zCl [(h, .inr (4, [.int (nI 0), .int (nI r), .int (nI w9), .int (nI 8), .int (nI 8), .int (nI 1), .int (nI r), .int (nI w9)]))] s.heap := hP
  have hl : lv_has ls 1 [(0, .ref h)] := hl
  refine lv_aload_n hx hb dX2_getDataCapacity_0 rfl (lv_at hl 0 rfl) ?_
  refine va_get (D := D) (ci := 4) (v := .int (nI r)) (C := RX2) (T := TX2) (N := 8) hx hb hts in_X2 hown hK hP 0 rfl rfl 1 (by decide) (hts _ q141) (fun _ h9 => h9) rfl dX2_getDataCapacity_1 ?_
  exact z_gret hx hb hr (rfl) hlocks dX2_getDataCapacity_4
set_option maxHeartbeats 4000000 in
set_option maxRecDepth 100000 in
theorem g_X2_ecw (l : Launch) (D : va_G) (G : Nat → Nat) {h r w9 : Nat} : zGet l yX2_getErrorCodewords cX2_getErrorCodewords 1 (Option.some Jvm.ClassFile.FieldType.int) ({ frames := 0, cells := 0, slots := 0, locals := 0 } : Room) D G [.ref h] [(h, .inr (4, [.int (nI 0), .int (nI r), .int (nI w9), .int (nI 8), .int (nI 8), .int (nI 1), .int (nI r), .int (nI w9)]))] (.int (nI w9)) := by
  refine z_gmet (by decide) (Nat.le_of_ble_eq_true rfl) ?_
  intro p e s m below meth c ls hx hb hr hml hown hlocks hts hK hP hS hG hl
  have hown : s.vm.findClass RX2 = some m.cls := hown
  have hP : va_P D zCl [(h, .inr (4, [.int (nI 0), .int (nI r), .int (nI w9), .int (nI 8), .int (nI 8), .int (nI 1), .int (nI r), .int (nI w9)]))] s.heap := hP
  have hl : lv_has ls 1 [(0, .ref h)] := hl
  refine lv_aload_n hx hb dX2_getErrorCodewords_0 rfl (lv_at hl 0 rfl) ?_
  refine va_get (D := D) (ci := 4) (v := .int (nI w9)) (C := RX2) (T := TX2) (N := 8) hx hb hts in_X2 hown hK hP 0 rfl rfl 2 (by decide) (hts _ q142) (fun _ h9 => h9) rfl dX2_getErrorCodewords_1 ?_
  exact z_gret hx hb hr (rfl) hlocks dX2_getErrorCodewords_4
set_option maxHeartbeats 4000000 in
set_option maxRecDepth 100000 in
theorem g_X2_blocks (l : Launch) (D : va_G) (G : Nat → Nat) {h r w9 : Nat} (h0 : 0 < r) (h1 : r < 2 ^ 31) : zGet l yX2_getInterleavedBlockCount cX2_getInterleavedBlockCount 1 (Option.some Jvm.ClassFile.FieldType.int) ({ frames := 0, cells := 0, slots := 0, locals := 0 } : Room) D G [.ref h] [(h, .inr (4, [.int (nI 0), .int (nI r), .int (nI w9), .int (nI 8), .int (nI 8), .int (nI 1), .int (nI r), .int (nI w9)]))] (.int (nI 1)) := by
  refine z_gmet (by decide) (Nat.le_of_ble_eq_true rfl) ?_
  intro p e s m below meth c ls hx hb hr hml hown hlocks hts hK hP hS hG hl
  have hown : s.vm.findClass RX2 = some m.cls := hown
  have hP : va_P D zCl [(h, .inr (4, [.int (nI 0), .int (nI r), .int (nI w9), .int (nI 8), .int (nI 8), .int (nI 1), .int (nI r), .int (nI w9)]))] s.heap := hP
  have hl : lv_has ls 1 [(0, .ref h)] := hl
  refine lv_aload_n hx hb dX2_getInterleavedBlockCount_0 rfl (lv_at hl 0 rfl) ?_
  refine va_get (D := D) (ci := 4) (v := .int (nI r)) (C := RX2) (T := TX2) (N := 8) hx hb hts in_X2 hown hK hP 0 rfl rfl 1 (by decide) (hts _ q141) (fun _ h9 => h9) rfl dX2_getInterleavedBlockCount_1 ?_
  refine lv_aload_n hx hb dX2_getInterleavedBlockCount_4 rfl (lv_at hl 0 rfl) ?_
  refine va_get (D := D) (ci := 4) (v := .int (nI r)) (C := RX2) (T := TX2) (N := 8) hx hb hts in_X2 hown hK hP 0 rfl rfl 6 (by decide) (hts _ q146) (fun _ h9 => h9) rfl dX2_getInterleavedBlockCount_5 ?_
  refine z_idiv hx hb (by omega) (by omega) (by omega) dX2_getInterleavedBlockCount_8 ?_
  rw [show nI (r / r) = nI 1 from congrArg nI (by rw [Nat.div_self h0])]
  exact z_gret hx hb hr (rfl) hlocks dX2_getInterleavedBlockCount_9
/-- createECCBlock's inner loop: behind the places above q -/
def zei (C : Nat) (f o : Nat → Nat) (m q j : Nat) : Nat := if q < j then o (j - 1) ^^^ zp m (f j) else o j
theorem zei_last {C : Nat} {f d : Nat → Nat} {i j : Nat} : (if j = 0 then zp (ze C f d i (C - 1) ^^^ d i) (f 0) else zei C f (ze C f d i) (ze C f d i (C - 1) ^^^ d i) 0 j) = ze C f d (i + 1) j := by
  show _ = (if j = 0 then 0 else ze C f d i (j - 1)) ^^^ zp (ze C f d i (C - 1) ^^^ d i) (f j)
  by_cases h : j = 0
  · rw [if_pos h, if_pos h, h, Nat.zero_xor]
  · rw [if_neg h, if_neg h, zei, if_pos (by omega)]
theorem ztb_pos {m c : Nat} (h : m ≠ 0) : ztb m c = zalog ((zlog m + zlog c) % 255) := by
  unfold ztb
  rw [show Nat.beq m 0 = false from by cases m with | zero => exact absurd rfl h | succ n => rfl]
  rfl
set_option maxHeartbeats 4000000 in
set_option maxRecDepth 100000 in
/-- createECCBlock: the check letters, the highest first -/
theorem m_X3_ecc (l : Launch) (D : va_G) (G : Nat → Nat) {S V n k : Nat} {f : Nat → Int32} {d : Nat → Nat} (hk : k < 10) (hn : n < 2 ^ 20) (hd : ∀ i, d i < 256) (hf : sb_Lat d n f) : zMet l yX3_createECCBlock cX3_createECCBlock 8 (Option.some (Jvm.ClassFile.FieldType.object "java/lang/String")) ({ frames := 5, cells := 4, slots := 174, locals := 117 } : Room) D G [.ref S, .int (nI (zch k))] [(S, .inr (2, [.ref V, .int (nI 0), .int (nI 0), .int (nI 0)])), (V, .inl (G 2, n, .inl f))] (zQr D (fun (u : Nat × (Nat → Int32)) => sb_Lat (fun x => ze (zch k) (zfac (zidx k)) d n (zch k - 1 - x)) (zch k) u.2) (fun u T => [(S, .inr (2, [.ref V, .int (nI 0), .int (nI 0), .int (nI 0)])), (V, .inl (G 2, n, .inl f)), (T, .inr (2, [.ref u.1, .int (nI 0), .int (nI 0), .int (nI 0)])), (u.1, .inl (G 2, zch k, .inl u.2))])) 4 174 := by
  refine z_met (by decide) (Nat.le_of_ble_eq_true rfl) ?_
  intro p e s m below meth c A ls hx hb hr hml hown hlocks hin hts hK hP hD hS hA hG hl
  have hD : va_D A [(S, .inr (2, [.ref V, .int (nI 0), .int (nI 0), .int (nI 0)])), (V, .inl (G 2, n, .inl f))] := hD
  have hown : s.vm.findClass RX3 = some m.cls := hown
  have hP : va_P D zCl [(S, .inr (2, [.ref V, .int (nI 0), .int (nI 0), .int (nI 0)])), (V, .inl (G 2, n, .inl f))] s.heap := hP
  have hl : lv_has ls 8 [(0, .ref S), (1, .int (nI (zch k)))] := hl
  have hc := zch_in k hk
  have hx2 := zidx_in k hk
  have hcap : ∀ z, zfac (zidx k) z < 256 := fun z => zby_lt _ _
  refine lv_iconst (v := (-1)) hx hb dX3_createECCBlock_0 (by decide) ?_
  refine lv_istore_n (lv' := [(2, .int (-1)), (0, .ref S), (1, .int (nI (zch k)))]) hx hb dX3_createECCBlock_1 rfl hl (by decide) rfl (fun ls hl => ?_)
  refine lv_iconst (v := nI 0) hx hb dX3_createECCBlock_2 (by decide) ?_
  refine lv_istore_n (lv' := [(3, .int (nI 0)), (2, .int (-1)), (0, .ref S), (1, .int (nI (zch k)))]) hx hb dX3_createECCBlock_3 rfl hl (by decide) rfl (fun ls hl => ?_)
  have hl := lv_sub (l' := [(3, .int (nI 0)), (2, .int (-1)), (0, .ref S), (1, .int (nI (zch k)))]) hl [0, 1, 2, 3] rfl
  refine z_loop (cf := fun k9 => 0) (sf := fun k9 => 0) (I := fun k9 H locs ls => ∃ (i : Nat), (i + k9 = zidx k) ∧ va_P D zCl [(S, .inr (2, [.ref V, .int (nI 0), .int (nI 0), .int (nI 0)])), (V, .inl (G 2, n, .inl f))] H ∧ va_D A [(S, .inr (2, [.ref V, .int (nI 0), .int (nI 0), .int (nI 0)])), (V, .inl (G 2, n, .inl f))] ∧ va_S A s.heap H locs ∧ lv_has ls 8 [(3, .int (nI i)), (2, .int (-1)), (0, .ref S), (1, .int (nI (zch k)))]) (N := zidx k) ⟨0, by omega, hP, hD, hS, hl⟩ ?_ ?_
  · intro H locs ls hI
    obtain ⟨i, hi, hP, hD, hS, hl⟩ := hI
    obtain rfl : i = zidx k := by omega
    refine lv_iload_n hx hb dX3_createECCBlock_4 rfl (lv_at hl 0 rfl) ?_
    refine va_gets hx hb hG.sets hS hown (hts _ q370) (fun _ h9 => h9) dX3_createECCBlock_5 ?_
    refine va_tlen (v := nI 16) hx hb hG.setT hS rfl dX3_createECCBlock_8 ?_
    refine lv_icmp_ge (tgt := 32) hx hb dX3_createECCBlock_9 (by decide) (fun c9 => absurd c9 (nI_ge (by omega) (by omega))) (fun _ => ?_)
    refine va_gets hx hb hG.sets hS hown (hts _ q370) (fun _ h9 => h9) dX3_createECCBlock_12 ?_
    refine lv_iload_n hx hb dX3_createECCBlock_15 rfl (lv_at hl 0 rfl) ?_
    refine z_tald hx hb hG.setT hS (by omega) (by decide) rfl dX3_createECCBlock_16 ?_
    refine lv_iload_n hx hb dX3_createECCBlock_17 rfl (lv_at hl 3 rfl) ?_
    refine lv_icmp_ne (tgt := 26) hx hb dX3_createECCBlock_18 (by decide) (fun c9 => absurd (congrArg nI (zidx_at k hk)) c9) (fun _ => ?_)
    refine lv_iload_n hx hb dX3_createECCBlock_21 rfl (lv_at hl 0 rfl) ?_
    refine lv_istore_n (lv' := [(2, .int (nI (zidx k))), (3, .int (nI (zidx k))), (0, .ref S), (1, .int (nI (zch k)))]) hx hb dX3_createECCBlock_22 rfl hl (by decide) rfl (fun ls hl => ?_)
    refine lv_goto (tgt := 32) hx hb dX3_createECCBlock_23 (by decide) ?_
    refine lv_iload_n hx hb dX3_createECCBlock_32 rfl (lv_at hl 0 rfl) ?_
    refine lv_if_ge (tgt := 46) hx hb dX3_createECCBlock_33 (by decide) (fun _ => ?_) (fun c9 => absurd (nI_pos' (by omega)) c9)
    refine va_gets hx hb hG.factors hS hown (hts _ q373) (fun _ h9 => h9) dX3_createECCBlock_46 ?_
    refine lv_iload_n hx hb dX3_createECCBlock_49 rfl (lv_at hl 0 rfl) ?_
    refine z_rald (v := .ref (G (20 + zidx k))) hx hb hG.factorT hS (by omega) (by decide) rfl dX3_createECCBlock_50 ?_
    refine lv_astore_n (lv' := [(3, .ref (G (20 + zidx k))), (2, .int (nI (zidx k))), (0, .ref S), (1, .int (nI (zch k)))]) hx hb dX3_createECCBlock_51 rfl hl (by decide) rfl (fun ls hl => ?_)
    have hrow := hG.rowT hx2
    rw [zidx_at k hk] at hrow
    refine lv_iload_n hx hb dX3_createECCBlock_52 rfl (lv_at hl 3 rfl) ?_
    refine z_newc hx hb (hts _ q36) hK hP hD hS hA (by omega) (Nat.le_of_ble_eq_true rfl) (show 0 + zch k ≤ 174 by omega) dX3_createECCBlock_53 (fun E H hP hD hS => ?_)
    have hP : va_P D zCl [(S, .inr (2, [.ref V, .int (nI 0), .int (nI 0), .int (nI 0)])), (V, .inl (G 2, n, .inl f)), (E, .inl (G 1, zch k, .inl (fun _ => nI 0)))] H := hP
    have hD : va_D A [(S, .inr (2, [.ref V, .int (nI 0), .int (nI 0), .int (nI 0)])), (V, .inl (G 2, n, .inl f)), (E, .inl (G 1, zch k, .inl (fun _ => nI 0)))] := hD
    refine W.widen (k := 1) (n := 36) (by omega) (by omega) ?_
    refine lv_astore (lv' := [(4, .ref E), (3, .ref (G (20 + zidx k))), (2, .int (nI (zidx k))), (0, .ref S), (1, .int (nI (zch k)))]) hx hb dX3_createECCBlock_55 hl (by decide) rfl (fun ls hl => ?_)
    refine lv_iconst (v := nI 0) hx hb dX3_createECCBlock_57 (by decide) ?_
    refine lv_istore (lv' := [(5, .int (nI 0)), (4, .ref E), (3, .ref (G (20 + zidx k))), (2, .int (nI (zidx k))), (0, .ref S), (1, .int (nI (zch k)))]) hx hb dX3_createECCBlock_58 hl (by decide) rfl (fun ls hl => ?_)
    have hl := lv_sub (l' := [(5, .int (nI 0)), (4, .ref E), (3, .ref (G (20 + zidx k))), (2, .int (nI (zidx k))), (0, .ref S), (1, .int (nI (zch k)))]) hl [0, 1, 2, 3, 4, 5] rfl
    refine z_loop (cf := fun k9 => 1) (sf := fun k9 => 36) (I := fun k9 H locs ls => ∃ (i : Nat) (e0 : Nat → Int32), (i + k9 = zch k) ∧ (∀ j, e0 j = nI 0) ∧ va_P D zCl [(S, .inr (2, [.ref V, .int (nI 0), .int (nI 0), .int (nI 0)])), (V, .inl (G 2, n, .inl f)), (E, .inl (G 1, zch k, .inl e0))] H ∧ va_D A [(S, .inr (2, [.ref V, .int (nI 0), .int (nI 0), .int (nI 0)])), (V, .inl (G 2, n, .inl f)), (E, .inl (G 1, zch k, .inl e0))] ∧ va_S A s.heap H locs ∧ lv_has ls 8 [(5, .int (nI i)), (4, .ref E), (3, .ref (G (20 + zidx k))), (2, .int (nI (zidx k))), (0, .ref S), (1, .int (nI (zch k)))]) (N := zch k) ⟨0, fun _ => nI 0, by omega, fun _ => rfl, hP, hD, hS, hl⟩ ?_ ?_
    · intro H locs ls hI
      obtain ⟨i, e0, hi, he, hP, hD, hS, hl⟩ := hI
      obtain rfl : i = zch k := by omega
      refine lv_iload hx hb dX3_createECCBlock_60 (lv_at hl 0 rfl) ?_
      refine lv_iload_n hx hb dX3_createECCBlock_62 rfl (lv_at hl 5 rfl) ?_
      refine lv_icmp_ge (tgt := 78) hx hb dX3_createECCBlock_63 (by decide) (fun _ => ?_) (fun c9 => absurd (nI_le (Nat.le_refl _) (by omega)) c9)
      refine lv_iconst (v := nI 0) hx hb dX3_createECCBlock_78 (by decide) ?_
      refine lv_istore (lv' := [(5, .int (nI 0)), (4, .ref E), (3, .ref (G (20 + zidx k))), (2, .int (nI (zidx k))), (0, .ref S), (1, .int (nI (zch k)))]) hx hb dX3_createECCBlock_79 hl (by decide) rfl (fun ls hl => ?_)
      have hl := lv_sub (l' := [(5, .int (nI 0)), (4, .ref E), (3, .ref (G (20 + zidx k))), (2, .int (nI (zidx k))), (0, .ref S), (1, .int (nI (zch k)))]) hl [0, 1, 2, 3, 4, 5] rfl
      refine z_loop (cf := fun k9 => 1) (sf := fun k9 => 36) (I := fun k9 H locs ls => ∃ (i : Nat) (e0 : Nat → Int32), (i + k9 = n) ∧ (∀ j, j < zch k → e0 j = nI (ze (zch k) (zfac (zidx k)) d i j)) ∧ va_P D zCl [(S, .inr (2, [.ref V, .int (nI 0), .int (nI 0), .int (nI 0)])), (V, .inl (G 2, n, .inl f)), (E, .inl (G 1, zch k, .inl e0))] H ∧ va_D A [(S, .inr (2, [.ref V, .int (nI 0), .int (nI 0), .int (nI 0)])), (V, .inl (G 2, n, .inl f)), (E, .inl (G 1, zch k, .inl e0))] ∧ va_S A s.heap H locs ∧ lv_has ls 8 [(5, .int (nI i)), (4, .ref E), (3, .ref (G (20 + zidx k))), (2, .int (nI (zidx k))), (0, .ref S), (1, .int (nI (zch k)))]) (N := n) ⟨0, e0, by omega, fun j _ => he j, hP, hD, hS, hl⟩ ?_ ?_
      · intro H locs ls hI
        obtain ⟨i, e0, hi, he, hP, hD, hS, hl⟩ := hI
        obtain rfl : i = n := by omega
        refine lv_iload hx hb dX3_createECCBlock_81 (lv_at hl 0 rfl) ?_
        refine lv_aload_n hx hb dX3_createECCBlock_83 rfl (lv_at hl 4 rfl) ?_
        refine z_getF (va_runF (hK.1 2 _ rfl).2 (As := []) (rest := [.int (nI i)]) ⟨hx, hb, hml, hown, hts⟩ (g_J0_length l D G (by omega)) (va_cwF 0 hts (lw_app (z_if q376 q380 q169 q4) (lw_meth q171)) rfl rfl rfl hG.fLen (by decide +kernel) ⟨Nat.le_of_ble_eq_true rfl, Nat.le_of_ble_eq_true rfl⟩) (z_preVg (z_rc hK hP 0 2 rfl rfl) (z_preSg hK hP hG hS [0, 1] rfl)) rfl rfl hl.1 rfl (lv_room (Nat.le_of_ble_eq_true rfl)) dX3_createECCBlock_84 ⟨Nat.le_of_ble_eq_true rfl, Nat.le_of_ble_eq_true rfl⟩) ?_
        refine lv_icmp_ge (tgt := 241) hx hb dX3_createECCBlock_89 (by decide) (fun _ => ?_) (fun c9 => absurd (nI_le (Nat.le_refl _) (by omega)) c9)
        refine lv_iload_n hx hb dX3_createECCBlock_241 rfl (lv_at hl 5 rfl) ?_
        refine z_newc hx hb (hts _ q36) hK hP hD hS hA (by omega) (Nat.le_of_ble_eq_true rfl) (show 36 + zch k ≤ 174 by omega) dX3_createECCBlock_242 (fun Z H hP hD hS => ?_)
        have hP : va_P D zCl [(S, .inr (2, [.ref V, .int (nI 0), .int (nI 0), .int (nI 0)])), (V, .inl (G 2, i, .inl f)), (E, .inl (G 1, zch k, .inl e0)), (Z, .inl (G 1, zch k, .inl (fun _ => nI 0)))] H := hP
        have hD : va_D A [(S, .inr (2, [.ref V, .int (nI 0), .int (nI 0), .int (nI 0)])), (V, .inl (G 2, i, .inl f)), (E, .inl (G 1, zch k, .inl e0)), (Z, .inl (G 1, zch k, .inl (fun _ => nI 0)))] := hD
        refine W.widen (k := 2) (n := 72) (by omega) (by omega) ?_
        refine lv_astore (lv' := [(5, .ref Z), (4, .ref E), (3, .ref (G (20 + zidx k))), (2, .int (nI (zidx k))), (0, .ref S), (1, .int (nI (zch k)))]) hx hb dX3_createECCBlock_244 hl (by decide) rfl (fun ls hl => ?_)
        refine lv_iconst (v := nI 0) hx hb dX3_createECCBlock_246 (by decide) ?_
        refine lv_istore (lv' := [(6, .int (nI 0)), (5, .ref Z), (4, .ref E), (3, .ref (G (20 + zidx k))), (2, .int (nI (zidx k))), (0, .ref S), (1, .int (nI (zch k)))]) hx hb dX3_createECCBlock_247 hl (by decide) rfl (fun ls hl => ?_)
        have hl := lv_sub (l' := [(6, .int (nI 0)), (5, .ref Z), (4, .ref E), (1, .int (nI (zch k)))]) hl [0, 1, 2, 6] rfl
        refine z_loop (cf := fun k9 => 2) (sf := fun k9 => 72) (I := fun k9 H locs ls => ∃ (j : Nat) (z0 : Nat → Int32), (j + k9 = zch k) ∧ (zCh (fun x => ze (zch k) (zfac (zidx k)) d i (zch k - 1 - x)) j z0) ∧ va_P D zCl [(S, .inr (2, [.ref V, .int (nI 0), .int (nI 0), .int (nI 0)])), (V, .inl (G 2, i, .inl f)), (E, .inl (G 1, zch k, .inl e0)), (Z, .inl (G 1, zch k, .inl z0))] H ∧ va_D A [(S, .inr (2, [.ref V, .int (nI 0), .int (nI 0), .int (nI 0)])), (V, .inl (G 2, i, .inl f)), (E, .inl (G 1, zch k, .inl e0)), (Z, .inl (G 1, zch k, .inl z0))] ∧ va_S A s.heap H locs ∧ lv_has ls 8 [(6, .int (nI j)), (5, .ref Z), (4, .ref E), (1, .int (nI (zch k)))]) (N := zch k) ⟨0, fun _ => nI 0, by omega, (fun j hj => by omega), hP, hD, hS, hl⟩ ?_ ?_
        · intro H locs ls hI
          obtain ⟨j, z0, hj, hz, hP, hD, hS, hl⟩ := hI
          obtain rfl : j = zch k := by omega
          refine lv_iload hx hb dX3_createECCBlock_249 (lv_at hl 0 rfl) ?_
          refine lv_iload_n hx hb dX3_createECCBlock_251 rfl (lv_at hl 3 rfl) ?_
          refine lv_icmp_ge (tgt := 275) hx hb dX3_createECCBlock_252 (by decide) (fun _ => ?_) (fun c9 => absurd (nI_le (Nat.le_refl _) (by omega)) c9)
          refine lv_aload hx hb dX3_createECCBlock_275 (lv_at hl 1 rfl) ?_
          refine z_callr (wr := [(S, .inr (2, [.ref V, .int (nI 0), .int (nI 0), .int (nI 0)])), (V, .inl (G 2, i, .inl f)), (E, .inl (G 1, zch k, .inl e0))]) (va_runS (As := [.ref Z]) (rest := []) ⟨hx, hb, hml, hown, hts⟩ (m_J0_valueOf l D G (by omega) (by omega) (by omega) (t := fun x => ze (zch k) (zfac (zidx k)) d i (zch k - 1 - x)) hz H.size) (va_cwS 1 hts (lw_S q436 q437 q4 q438) rfl rfl rfl (by decide +kernel) ⟨Nat.le_of_ble_eq_true rfl, Nat.le_of_ble_eq_true rfl⟩) (z_preS hK hP hD hG hS hA [3] rfl (by decide)) rfl rfl hl.1 rfl (lv_room (Nat.le_of_ble_eq_true rfl)) dX3_createECCBlock_277 ⟨Nat.le_of_ble_eq_true rfl, Nat.le_of_ble_eq_true rfl⟩) hP hD hS hA [3] [0, 1, 2] rfl rfl (by decide) (by decide) (fun u T H locs hw hP hD hS => ?_)
          obtain ⟨X, g⟩ := u
          have hP : va_P D zCl [(S, .inr (2, [.ref V, .int (nI 0), .int (nI 0), .int (nI 0)])), (V, .inl (G 2, i, .inl f)), (E, .inl (G 1, zch k, .inl e0)), (Z, .inl (G 1, zch k, .inl z0)), (T, .inr (2, [.ref X, .int (nI 0), .int (nI 0), .int (nI 0)])), (X, .inl (G 2, zch k, .inl g))] H := hP
          have hD : va_D A [(S, .inr (2, [.ref V, .int (nI 0), .int (nI 0), .int (nI 0)])), (V, .inl (G 2, i, .inl f)), (E, .inl (G 1, zch k, .inl e0)), (Z, .inl (G 1, zch k, .inl z0)), (T, .inr (2, [.ref X, .int (nI 0), .int (nI 0), .int (nI 0)])), (X, .inl (G 2, zch k, .inl g))] := hD
          have hP := hP.sub (ws' := [(S, .inr (2, [.ref V, .int (nI 0), .int (nI 0), .int (nI 0)])), (V, .inl (G 2, i, .inl f)), (T, .inr (2, [.ref X, .int (nI 0), .int (nI 0), .int (nI 0)])), (X, .inl (G 2, zch k, .inl g))]) [0, 1, 4, 5] rfl
          have hD := hD.sub (ws' := [(S, .inr (2, [.ref V, .int (nI 0), .int (nI 0), .int (nI 0)])), (V, .inl (G 2, i, .inl f)), (T, .inr (2, [.ref X, .int (nI 0), .int (nI 0), .int (nI 0)])), (X, .inl (G 2, zch k, .inl g))]) [0, 1, 4, 5] (by decide) rfl
          refine W.widen (k := 4) (n := 174) (by omega) (by omega) ?_
          exact z_aret hx hb hr (Or.inl ⟨_, rfl⟩) hlocks (X, g) (hw) hP hD hS dX3_createECCBlock_280
        · intro k9 ih H locs ls hI
          obtain ⟨j, z0, hj, hz, hP, hD, hS, hl⟩ := hI
          refine lv_iload hx hb dX3_createECCBlock_249 (lv_at hl 0 rfl) ?_
          refine lv_iload_n hx hb dX3_createECCBlock_251 rfl (lv_at hl 3 rfl) ?_
          refine lv_icmp_ge (tgt := 275) hx hb dX3_createECCBlock_252 (by decide) (fun c9 => absurd c9 (nI_ge (by omega) (by omega))) (fun _ => ?_)
          have h25 := ze_lt (C := zch k) (f := zfac (zidx k)) hd i (zch k - 1 - j)
          refine lv_aload hx hb dX3_createECCBlock_255 (lv_at hl 1 rfl) ?_
          refine lv_iload hx hb dX3_createECCBlock_257 (lv_at hl 0 rfl) ?_
          refine lv_aload hx hb dX3_createECCBlock_259 (lv_at hl 2 rfl) ?_
          refine lv_iload_n hx hb dX3_createECCBlock_261 rfl (lv_at hl 3 rfl) ?_
          refine lv_iload hx hb dX3_createECCBlock_262 (lv_at hl 0 rfl) ?_
          refine z_isub hx hb (by omega) dX3_createECCBlock_264 ?_
          refine lv_iconst (v := nI 1) hx hb dX3_createECCBlock_265 (by decide) ?_
          refine z_isub hx hb (by omega) dX3_createECCBlock_266 ?_
          rw [show nI (zch k - j - 1) = nI (zch k - 1 - j) from congrArg nI (by omega)]
          refine z_cald (v := nI (ze (zch k) (zfac (zidx k)) d i (zch k - 1 - j))) hx hb hK hP 2 1 rfl rfl (by omega) (by omega) (he _ (by omega)) dX3_createECCBlock_267 ?_
          refine z_cast hx hb hK hP hD hS 3 1 rfl rfl (by omega) (by omega) (by omega) dX3_createECCBlock_268 (fun H locs hP hD hS => ?_)
          generalize ee : upd z0 j (nI (ze (zch k) (zfac (zidx k)) d i (zch k - 1 - j))) = z1 at hP hD
          have hP : va_P D zCl [(S, .inr (2, [.ref V, .int (nI 0), .int (nI 0), .int (nI 0)])), (V, .inl (G 2, i, .inl f)), (E, .inl (G 1, zch k, .inl e0)), (Z, .inl (G 1, zch k, .inl z1))] H := hP
          have hD : va_D A [(S, .inr (2, [.ref V, .int (nI 0), .int (nI 0), .int (nI 0)])), (V, .inl (G 2, i, .inl f)), (E, .inl (G 1, zch k, .inl e0)), (Z, .inl (G 1, zch k, .inl z1))] := hD
          refine lv_iinc (v := (nI (j + 1))) (lv' := [(6, .int (nI (j + 1))), (5, .ref Z), (4, .ref E), (1, .int (nI (zch k)))]) hx hb dX3_createECCBlock_269 hl (k := 0) rfl (nI_add j 1) (by decide) rfl (fun ls hl => ?_)
          refine lv_goto (tgt := 249) hx hb dX3_createECCBlock_272 (by decide) ?_
          refine ih H locs ls ⟨j + 1, z1, by omega, ?_, hP, hD, hS, lv_sub hl [0, 1, 2, 3] rfl⟩
          rw [← ee]
          exact z_upd_lt (P := fun x y => ze (zch k) (zfac (zidx k)) d i (zch k - 1 - x) < 256 ∧ y = nI (ze (zch k) (zfac (zidx k)) d i (zch k - 1 - x))) hz ⟨h25, rfl⟩
      · intro k9 ih H locs ls hI
        obtain ⟨i, e0, hi, he, hP, hD, hS, hl⟩ := hI
        refine lv_iload hx hb dX3_createECCBlock_81 (lv_at hl 0 rfl) ?_
        refine lv_aload_n hx hb dX3_createECCBlock_83 rfl (lv_at hl 4 rfl) ?_
        refine z_getF (va_runF (hK.1 2 _ rfl).2 (As := []) (rest := [.int (nI i)]) ⟨hx, hb, hml, hown, hts⟩ (g_J0_length l D G (by omega)) (va_cwF 0 hts (lw_app (z_if q376 q380 q169 q4) (lw_meth q171)) rfl rfl rfl hG.fLen (by decide +kernel) ⟨Nat.le_of_ble_eq_true rfl, Nat.le_of_ble_eq_true rfl⟩) (z_preVg (z_rc hK hP 0 2 rfl rfl) (z_preSg hK hP hG hS [0, 1] rfl)) rfl rfl hl.1 rfl (lv_room (Nat.le_of_ble_eq_true rfl)) dX3_createECCBlock_84 ⟨Nat.le_of_ble_eq_true rfl, Nat.le_of_ble_eq_true rfl⟩) ?_
        refine lv_icmp_ge (tgt := 241) hx hb dX3_createECCBlock_89 (by decide) (fun c9 => absurd c9 (nI_ge (by omega) (by omega))) (fun _ => ?_)
        have hdi := (hf i (by omega)).1
        have hm : ze (zch k) (zfac (zidx k)) d i (zch k - 1) ^^^ d i < 256 := zxor_lt (ze_lt hd _ _) hdi
        refine lv_aload hx hb dX3_createECCBlock_92 (lv_at hl 1 rfl) ?_
        refine lv_iload_n hx hb dX3_createECCBlock_94 rfl (lv_at hl 5 rfl) ?_
        refine lv_iconst (v := nI 1) hx hb dX3_createECCBlock_95 (by decide) ?_
        refine z_isub hx hb (by omega) dX3_createECCBlock_96 ?_
        refine z_cald (v := nI (ze (zch k) (zfac (zidx k)) d i (zch k - 1))) hx hb hK hP 2 1 rfl rfl (by omega) (by omega) (he _ (by omega)) dX3_createECCBlock_97 ?_
        refine lv_aload_n hx hb dX3_createECCBlock_98 rfl (lv_at hl 4 rfl) ?_
        refine lv_iload hx hb dX3_createECCBlock_99 (lv_at hl 0 rfl) ?_
        refine z_getF (va_runF (hK.1 2 _ rfl).2 (As := [.int (nI i)]) (rest := [.int (nI (ze (zch k) (zfac (zidx k)) d i (zch k - 1)))]) ⟨hx, hb, hml, hown, hts⟩ (g_J0_charAt l D G (by omega) hf (by omega)) (va_cwF 1 hts (lw_app (z_if q393 q396 q398 q4) (lw_meth q400)) rfl rfl rfl hG.fAt (by decide +kernel) ⟨Nat.le_of_ble_eq_true rfl, Nat.le_of_ble_eq_true rfl⟩) (z_preVg (z_rc hK hP 0 2 rfl rfl) (z_preSg hK hP hG hS [0, 1] rfl)) rfl rfl hl.1 rfl (lv_room (Nat.le_of_ble_eq_true rfl)) dX3_createECCBlock_101 ⟨Nat.le_of_ble_eq_true rfl, Nat.le_of_ble_eq_true rfl⟩) ?_
        refine z_ixor hx hb dX3_createECCBlock_106 ?_
        obtain ⟨m0, em⟩ : ∃ m0, m0 = ze (zch k) (zfac (zidx k)) d i (zch k - 1) ^^^ d i := ⟨_, rfl⟩
        rw [show nI (ze (zch k) (zfac (zidx k)) d i (zch k - 1) ^^^ d i) = nI m0 from congrArg nI (by rw [em])]
        rw [← em] at hm
        refine lv_istore (lv' := [(6, .int (nI m0)), (5, .int (nI i)), (4, .ref E), (3, .ref (G (20 + zidx k))), (2, .int (nI (zidx k))), (0, .ref S), (1, .int (nI (zch k)))]) hx hb dX3_createECCBlock_107 hl (by decide) rfl (fun ls hl => ?_)
        refine lv_iload_n hx hb dX3_createECCBlock_109 rfl (lv_at hl 6 rfl) ?_
        refine lv_iconst (v := nI 1) hx hb dX3_createECCBlock_110 (by decide) ?_
        refine z_isub hx hb (by omega) dX3_createECCBlock_111 ?_
        refine lv_istore (lv' := [(7, .int (nI (zch k - 1))), (6, .int (nI m0)), (5, .int (nI i)), (4, .ref E), (3, .ref (G (20 + zidx k))), (2, .int (nI (zidx k))), (0, .ref S), (1, .int (nI (zch k)))]) hx hb dX3_createECCBlock_112 hl (by decide) rfl (fun ls hl => ?_)
        have hl := lv_sub (l' := [(7, .int (nI (zch k - 1))), (6, .int (nI m0)), (5, .int (nI i)), (4, .ref E), (3, .ref (G (20 + zidx k))), (2, .int (nI (zidx k))), (0, .ref S), (1, .int (nI (zch k)))]) hl [0, 1, 2, 3, 4, 5, 6, 7] rfl
        have h256 : ∀ j, ze (zch k) (zfac (zidx k)) d i j < 256 := fun j => ze_lt hd _ _
        refine z_loop (cf := fun k9 => 1) (sf := fun k9 => 36) (I := fun k9 H locs ls => ∃ (q : Nat) (e1 : Nat → Int32), (q = k9 ∧ q < zch k) ∧ (∀ j, j < zch k → e1 j = nI (zei (zch k) (zfac (zidx k)) (ze (zch k) (zfac (zidx k)) d i) m0 q j)) ∧ va_P D zCl [(S, .inr (2, [.ref V, .int (nI 0), .int (nI 0), .int (nI 0)])), (V, .inl (G 2, n, .inl f)), (E, .inl (G 1, zch k, .inl e1))] H ∧ va_D A [(S, .inr (2, [.ref V, .int (nI 0), .int (nI 0), .int (nI 0)])), (V, .inl (G 2, n, .inl f)), (E, .inl (G 1, zch k, .inl e1))] ∧ va_S A s.heap H locs ∧ lv_has ls 8 [(7, .int (nI q)), (6, .int (nI m0)), (5, .int (nI i)), (4, .ref E), (3, .ref (G (20 + zidx k))), (2, .int (nI (zidx k))), (0, .ref S), (1, .int (nI (zch k)))]) (N := zch k - 1) ⟨zch k - 1, e0, by omega, (fun j hj => by rw [he j hj, zei, if_neg (by omega)]), hP, hD, hS, hl⟩ ?_ ?_
        · intro H locs ls hI
          obtain ⟨q, e1, hq, he2, hP, hD, hS, hl⟩ := hI
          obtain rfl : q = 0 := by omega
          refine lv_iload hx hb dX3_createECCBlock_114 (lv_at hl 0 rfl) ?_
          refine lv_if_le (tgt := 189) hx hb dX3_createECCBlock_116 (by decide) (fun _ => ?_) (fun c9 => absurd (show nI 0 ≤ 0 by decide) c9)
          refine lv_iload hx hb dX3_createECCBlock_189 (lv_at hl 1 rfl) ?_
          refine lv_if_eq (tgt := 230) hx hb dX3_createECCBlock_191 (by decide) (fun hm0 => ?_) (fun hm0 => ?_)
          · have hm0 : m0 = 0 := (nI_eq (by omega) (by decide)).mp (hm0.trans nI_0.symm)
            refine lv_aload hx hb dX3_createECCBlock_230 (lv_at hl 3 rfl) ?_
            refine lv_iconst (v := nI 0) hx hb dX3_createECCBlock_232 (by decide) ?_
            refine lv_iconst (v := nI 0) hx hb dX3_createECCBlock_233 (by decide) ?_
            refine z_cast hx hb hK hP hD hS 2 1 rfl rfl (by omega) (by omega) (by omega) dX3_createECCBlock_234 (fun H locs hP hD hS => ?_)
            generalize ee : upd e1 0 (nI 0) = e2 at hP hD
            have hP : va_P D zCl [(S, .inr (2, [.ref V, .int (nI 0), .int (nI 0), .int (nI 0)])), (V, .inl (G 2, n, .inl f)), (E, .inl (G 1, zch k, .inl e2))] H := hP
            have hD : va_D A [(S, .inr (2, [.ref V, .int (nI 0), .int (nI 0), .int (nI 0)])), (V, .inl (G 2, n, .inl f)), (E, .inl (G 1, zch k, .inl e2))] := hD
            refine lv_iinc (v := (nI (i + 1))) (lv' := [(5, .int (nI (i + 1))), (7, .int (nI 0)), (6, .int (nI m0)), (4, .ref E), (3, .ref (G (20 + zidx k))), (2, .int (nI (zidx k))), (0, .ref S), (1, .int (nI (zch k)))]) hx hb dX3_createECCBlock_235 hl (k := 2) rfl (nI_add i 1) (by decide) rfl (fun ls hl => ?_)
            refine lv_goto (tgt := 81) hx hb dX3_createECCBlock_238 (by decide) ?_
            refine ih H locs ls ⟨i + 1, e2, by omega, ?_, hP, hD, hS, lv_sub hl [0, 3, 4, 5, 6, 7] rfl⟩
            rw [← ee]
            refine z_upd_all (P := fun j x => x = nI (ze (zch k) (zfac (zidx k)) d (i + 1) j)) (fun j h8 h9 => ?_) ?_
            · rw [he2 j h8, ← zei_last, if_neg h9, em]
            · rw [← zei_last, if_pos rfl, ← em]
              rw [hm0, zp_0]
          · have hm0 : m0 ≠ 0 := fun h9 => hm0 (by rw [h9]; exact nI_0)
            refine lv_aload_n hx hb dX3_createECCBlock_194 rfl (lv_at hl 4 rfl) ?_
            refine lv_iconst (v := nI 0) hx hb dX3_createECCBlock_195 (by decide) ?_
            refine z_tald (v := .int (nI (zfac (zidx k) 0))) hx hb hrow hS (by omega) (by omega) rfl dX3_createECCBlock_196 ?_
            have hp0 := zfac_pos hk (show 0 < zch k by omega)
            have hp1 := hcap 0
            refine lv_if_eq (tgt := 230) hx hb dX3_createECCBlock_197 (by decide) (fun c9 => absurd c9 (nI_ne0 (by omega) (by omega))) (fun _ => ?_)
            refine lv_aload hx hb dX3_createECCBlock_200 (lv_at hl 3 rfl) ?_
            refine lv_iconst (v := nI 0) hx hb dX3_createECCBlock_202 (by decide) ?_
            refine va_gets hx hb hG.alogs hS hown (hts _ q432) (fun _ h9 => h9) dX3_createECCBlock_203 ?_
            refine va_gets hx hb hG.logs hS hown (hts _ q434) (fun _ h9 => h9) dX3_createECCBlock_206 ?_
            refine lv_iload hx hb dX3_createECCBlock_209 (lv_at hl 1 rfl) ?_
            refine z_tald hx hb hG.logT hS (by omega) (by decide) rfl dX3_createECCBlock_211 ?_
            refine va_gets hx hb hG.logs hS hown (hts _ q434) (fun _ h9 => h9) dX3_createECCBlock_212 ?_
            refine lv_aload_n hx hb dX3_createECCBlock_215 rfl (lv_at hl 4 rfl) ?_
            refine lv_iconst (v := nI 0) hx hb dX3_createECCBlock_216 (by decide) ?_
            refine z_tald (v := .int (nI (zfac (zidx k) 0))) hx hb hrow hS (by omega) (by omega) rfl dX3_createECCBlock_217 ?_
            refine z_tald hx hb hG.logT hS (hcap _) (by decide) rfl dX3_createECCBlock_218 ?_
            have hl1 := zby_log m0
            have hl2 := zby_log (zfac (zidx k) 0)
            refine z_iadd hx hb dX3_createECCBlock_219 ?_
            refine lv_sipush (v := nI 255) hx hb dX3_createECCBlock_220 (by decide) ?_
            refine z_irem hx hb (by omega) (by omega) (by omega) dX3_createECCBlock_223 ?_
            refine z_tald hx hb hG.alogT hS (Nat.mod_lt _ (by decide)) (by decide) rfl dX3_createECCBlock_224 ?_
            rw [show nI (zalog ((zlog m0 + zlog (zfac (zidx k) 0)) % 255)) = nI (zp m0 (zfac (zidx k) 0)) from congrArg nI (by rw [ztab hk (by omega) hm, ztb_pos hm0])]
            have hz := zp_lt hm (zfac (zidx k) 0)
            refine z_i2c hx hb (by omega) dX3_createECCBlock_225 ?_
            refine z_cast hx hb hK hP hD hS 2 1 rfl rfl (by omega) (by omega) (by omega) dX3_createECCBlock_226 (fun H locs hP hD hS => ?_)
            generalize ee : upd e1 0 (nI (zp m0 (zfac (zidx k) 0))) = e2 at hP hD
            have hP : va_P D zCl [(S, .inr (2, [.ref V, .int (nI 0), .int (nI 0), .int (nI 0)])), (V, .inl (G 2, n, .inl f)), (E, .inl (G 1, zch k, .inl e2))] H := hP
            have hD : va_D A [(S, .inr (2, [.ref V, .int (nI 0), .int (nI 0), .int (nI 0)])), (V, .inl (G 2, n, .inl f)), (E, .inl (G 1, zch k, .inl e2))] := hD
            refine lv_goto (tgt := 235) hx hb dX3_createECCBlock_227 (by decide) ?_
            refine lv_iinc (v := (nI (i + 1))) (lv' := [(5, .int (nI (i + 1))), (7, .int (nI 0)), (6, .int (nI m0)), (4, .ref E), (3, .ref (G (20 + zidx k))), (2, .int (nI (zidx k))), (0, .ref S), (1, .int (nI (zch k)))]) hx hb dX3_createECCBlock_235 hl (k := 2) rfl (nI_add i 1) (by decide) rfl (fun ls hl => ?_)
            refine lv_goto (tgt := 81) hx hb dX3_createECCBlock_238 (by decide) ?_
            refine ih H locs ls ⟨i + 1, e2, by omega, ?_, hP, hD, hS, lv_sub hl [0, 3, 4, 5, 6, 7] rfl⟩
            rw [← ee]
            refine z_upd_all (P := fun j x => x = nI (ze (zch k) (zfac (zidx k)) d (i + 1) j)) (fun j h8 h9 => ?_) ?_
            · rw [he2 j h8, ← zei_last, if_neg h9, em]
            · rw [← zei_last, if_pos rfl, ← em]
        · intro k9 ih H locs ls hI
          obtain ⟨q, e1, hq, he2, hP, hD, hS, hl⟩ := hI
          obtain ⟨q1, rfl⟩ : ∃ q1, q = q1 + 1 := ⟨q - 1, by omega⟩
          refine lv_iload hx hb dX3_createECCBlock_114 (lv_at hl 0 rfl) ?_
          refine lv_if_le (tgt := 189) hx hb dX3_createECCBlock_116 (by decide) (fun c9 => absurd c9 (nI_nle (by omega) (by omega))) (fun _ => ?_)
          have hq1 : e1 q1 = nI (ze (zch k) (zfac (zidx k)) d i q1) := by rw [he2 q1 (by omega), zei, if_neg (by omega)]
          have h25 := h256 q1
          refine lv_iload hx hb dX3_createECCBlock_119 (lv_at hl 1 rfl) ?_
          refine lv_if_eq (tgt := 171) hx hb dX3_createECCBlock_121 (by decide) (fun hm0 => ?_) (fun hm0 => ?_)
          · have hm0 : m0 = 0 := (nI_eq (by omega) (by decide)).mp (hm0.trans nI_0.symm)
            refine lv_aload hx hb dX3_createECCBlock_171 (lv_at hl 3 rfl) ?_
            refine lv_iload hx hb dX3_createECCBlock_173 (lv_at hl 0 rfl) ?_
            refine lv_aload hx hb dX3_createECCBlock_175 (lv_at hl 3 rfl) ?_
            refine lv_iload hx hb dX3_createECCBlock_177 (lv_at hl 0 rfl) ?_
            refine lv_iconst (v := nI 1) hx hb dX3_createECCBlock_179 (by decide) ?_
            refine z_isub hx hb (by omega) dX3_createECCBlock_180 ?_
            rw [show nI (q1 + 1 - 1) = nI q1 from congrArg nI (by rw [Nat.add_sub_cancel])]
            refine z_cald (v := nI (ze (zch k) (zfac (zidx k)) d i q1)) hx hb hK hP 2 1 rfl rfl (by omega) (by omega) hq1 dX3_createECCBlock_181 ?_
            refine z_cast hx hb hK hP hD hS 2 1 rfl rfl (by omega) (by omega) (by omega) dX3_createECCBlock_182 (fun H locs hP hD hS => ?_)
            generalize ee : upd e1 (q1 + 1) (nI (ze (zch k) (zfac (zidx k)) d i q1)) = e2 at hP hD
            have hP : va_P D zCl [(S, .inr (2, [.ref V, .int (nI 0), .int (nI 0), .int (nI 0)])), (V, .inl (G 2, n, .inl f)), (E, .inl (G 1, zch k, .inl e2))] H := hP
            have hD : va_D A [(S, .inr (2, [.ref V, .int (nI 0), .int (nI 0), .int (nI 0)])), (V, .inl (G 2, n, .inl f)), (E, .inl (G 1, zch k, .inl e2))] := hD
            refine lv_iinc (v := (nI q1)) (lv' := [(7, .int (nI q1)), (6, .int (nI m0)), (5, .int (nI i)), (4, .ref E), (3, .ref (G (20 + zidx k))), (2, .int (nI (zidx k))), (0, .ref S), (1, .int (nI (zch k)))]) hx hb dX3_createECCBlock_183 hl (k := 0) rfl (pk_m1 q1) (by decide) rfl (fun ls hl => ?_)
            refine lv_goto (tgt := 114) hx hb dX3_createECCBlock_186 (by decide) ?_
            refine ih H locs ls ⟨q1, e2, by omega, ?_, hP, hD, hS, lv_sub hl [0, 1, 2, 3, 4, 5, 6, 7] rfl⟩
            rw [← ee]
            refine z_upd_all (P := fun j x => x = nI (zei (zch k) (zfac (zidx k)) (ze (zch k) (zfac (zidx k)) d i) m0 q1 j)) (fun j h8 h9 => ?_) ?_
            · rw [he2 j h8]; unfold zei
              by_cases h7 : q1 + 1 < j
              · rw [if_pos h7, if_pos (by omega)]
              · rw [if_neg h7, if_neg (by omega)]
            · rw [zei, if_pos (by omega), Nat.add_sub_cancel, hm0, zp_0, Nat.xor_zero]
          · have hm0 : m0 ≠ 0 := fun h9 => hm0 (by rw [h9]; exact nI_0)
            refine lv_aload_n hx hb dX3_createECCBlock_124 rfl (lv_at hl 4 rfl) ?_
            refine lv_iload hx hb dX3_createECCBlock_125 (lv_at hl 0 rfl) ?_
            refine z_tald (v := .int (nI (zfac (zidx k) (q1 + 1)))) hx hb hrow hS (by omega) (by omega) rfl dX3_createECCBlock_127 ?_
            have hp0 := zfac_pos hk (show q1 + 1 < zch k by omega)
            have hp1 := hcap (q1 + 1)
            refine lv_if_eq (tgt := 171) hx hb dX3_createECCBlock_128 (by decide) (fun c9 => absurd c9 (nI_ne0 (by omega) (by omega))) (fun _ => ?_)
            refine lv_aload hx hb dX3_createECCBlock_131 (lv_at hl 3 rfl) ?_
            refine lv_iload hx hb dX3_createECCBlock_133 (lv_at hl 0 rfl) ?_
            refine lv_aload hx hb dX3_createECCBlock_135 (lv_at hl 3 rfl) ?_
            refine lv_iload hx hb dX3_createECCBlock_137 (lv_at hl 0 rfl) ?_
            refine lv_iconst (v := nI 1) hx hb dX3_createECCBlock_139 (by decide) ?_
            refine z_isub hx hb (by omega) dX3_createECCBlock_140 ?_
            rw [show nI (q1 + 1 - 1) = nI q1 from congrArg nI (by rw [Nat.add_sub_cancel])]
            refine z_cald (v := nI (ze (zch k) (zfac (zidx k)) d i q1)) hx hb hK hP 2 1 rfl rfl (by omega) (by omega) hq1 dX3_createECCBlock_141 ?_
            refine va_gets hx hb hG.alogs hS hown (hts _ q432) (fun _ h9 => h9) dX3_createECCBlock_142 ?_
            refine va_gets hx hb hG.logs hS hown (hts _ q434) (fun _ h9 => h9) dX3_createECCBlock_145 ?_
            refine lv_iload hx hb dX3_createECCBlock_148 (lv_at hl 1 rfl) ?_
            refine z_tald hx hb hG.logT hS (by omega) (by decide) rfl dX3_createECCBlock_150 ?_
            refine va_gets hx hb hG.logs hS hown (hts _ q434) (fun _ h9 => h9) dX3_createECCBlock_151 ?_
            refine lv_aload_n hx hb dX3_createECCBlock_154 rfl (lv_at hl 4 rfl) ?_
            refine lv_iload hx hb dX3_createECCBlock_155 (lv_at hl 0 rfl) ?_
            refine z_tald (v := .int (nI (zfac (zidx k) (q1 + 1)))) hx hb hrow hS (by omega) (by omega) rfl dX3_createECCBlock_157 ?_
            refine z_tald hx hb hG.logT hS (hcap _) (by decide) rfl dX3_createECCBlock_158 ?_
            have hl1 := zby_log m0
            have hl2 := zby_log (zfac (zidx k) (q1 + 1))
            refine z_iadd hx hb dX3_createECCBlock_159 ?_
            refine lv_sipush (v := nI 255) hx hb dX3_createECCBlock_160 (by decide) ?_
            refine z_irem hx hb (by omega) (by omega) (by omega) dX3_createECCBlock_163 ?_
            refine z_tald hx hb hG.alogT hS (Nat.mod_lt _ (by decide)) (by decide) rfl dX3_createECCBlock_164 ?_
            rw [show nI (zalog ((zlog m0 + zlog (zfac (zidx k) (q1 + 1))) % 255)) = nI (zp m0 (zfac (zidx k) (q1 + 1))) from congrArg nI (by rw [ztab hk (by omega) hm, ztb_pos hm0])]
            have hz := zxor_lt h25 (zp_lt hm (zfac (zidx k) (q1 + 1)))
            refine z_ixor hx hb dX3_createECCBlock_165 ?_
            refine z_i2c hx hb (by omega) dX3_createECCBlock_166 ?_
            refine z_cast hx hb hK hP hD hS 2 1 rfl rfl (by omega) (by omega) (by omega) dX3_createECCBlock_167 (fun H locs hP hD hS => ?_)
            generalize ee : upd e1 (q1 + 1) (nI (ze (zch k) (zfac (zidx k)) d i q1 ^^^ zp m0 (zfac (zidx k) (q1 + 1)))) = e2 at hP hD
            have hP : va_P D zCl [(S, .inr (2, [.ref V, .int (nI 0), .int (nI 0), .int (nI 0)])), (V, .inl (G 2, n, .inl f)), (E, .inl (G 1, zch k, .inl e2))] H := hP
            have hD : va_D A [(S, .inr (2, [.ref V, .int (nI 0), .int (nI 0), .int (nI 0)])), (V, .inl (G 2, n, .inl f)), (E, .inl (G 1, zch k, .inl e2))] := hD
            refine lv_goto (tgt := 183) hx hb dX3_createECCBlock_168 (by decide) ?_
            refine lv_iinc (v := (nI q1)) (lv' := [(7, .int (nI q1)), (6, .int (nI m0)), (5, .int (nI i)), (4, .ref E), (3, .ref (G (20 + zidx k))), (2, .int (nI (zidx k))), (0, .ref S), (1, .int (nI (zch k)))]) hx hb dX3_createECCBlock_183 hl (k := 0) rfl (pk_m1 q1) (by decide) rfl (fun ls hl => ?_)
            refine lv_goto (tgt := 114) hx hb dX3_createECCBlock_186 (by decide) ?_
            refine ih H locs ls ⟨q1, e2, by omega, ?_, hP, hD, hS, lv_sub hl [0, 1, 2, 3, 4, 5, 6, 7] rfl⟩
            rw [← ee]
            refine z_upd_all (P := fun j x => x = nI (zei (zch k) (zfac (zidx k)) (ze (zch k) (zfac (zidx k)) d i) m0 q1 j)) (fun j h8 h9 => ?_) ?_
            · rw [he2 j h8]; unfold zei
              by_cases h7 : q1 + 1 < j
              · rw [if_pos h7, if_pos (by omega)]
              · rw [if_neg h7, if_neg (by omega)]
            · rw [zei, if_pos (by omega), Nat.add_sub_cancel]
    · intro k9 ih H locs ls hI
      obtain ⟨i, e0, hi, he, hP, hD, hS, hl⟩ := hI
      refine lv_iload hx hb dX3_createECCBlock_60 (lv_at hl 0 rfl) ?_
      refine lv_iload_n hx hb dX3_createECCBlock_62 rfl (lv_at hl 5 rfl) ?_
      refine lv_icmp_ge (tgt := 78) hx hb dX3_createECCBlock_63 (by decide) (fun c9 => absurd c9 (nI_ge (by omega) (by omega))) (fun _ => ?_)
      refine lv_aload hx hb dX3_createECCBlock_66 (lv_at hl 1 rfl) ?_
      refine lv_iload hx hb dX3_createECCBlock_68 (lv_at hl 0 rfl) ?_
      refine lv_iconst (v := nI 0) hx hb dX3_createECCBlock_70 (by decide) ?_
      refine z_cast hx hb hK hP hD hS 2 1 rfl rfl (by omega) (by omega) (by omega) dX3_createECCBlock_71 (fun H locs hP hD hS => ?_)
      generalize ee : upd e0 i (nI 0) = e1 at hP hD
      have hP : va_P D zCl [(S, .inr (2, [.ref V, .int (nI 0), .int (nI 0), .int (nI 0)])), (V, .inl (G 2, n, .inl f)), (E, .inl (G 1, zch k, .inl e1))] H := hP
      have hD : va_D A [(S, .inr (2, [.ref V, .int (nI 0), .int (nI 0), .int (nI 0)])), (V, .inl (G 2, n, .inl f)), (E, .inl (G 1, zch k, .inl e1))] := hD
      refine lv_iinc (v := (nI (i + 1))) (lv' := [(5, .int (nI (i + 1))), (4, .ref E), (3, .ref (G (20 + zidx k))), (2, .int (nI (zidx k))), (0, .ref S), (1, .int (nI (zch k)))]) hx hb dX3_createECCBlock_72 hl (k := 0) rfl (nI_add i 1) (by decide) rfl (fun ls hl => ?_)
      refine lv_goto (tgt := 60) hx hb dX3_createECCBlock_75 (by decide) ?_
      refine ih H locs ls ⟨i + 1, e1, by omega, ?_, hP, hD, hS, lv_sub hl [0, 1, 2, 3, 4, 5] rfl⟩
      rw [← ee]
      intro j
      by_cases h9 : j = i
      · rw [h9, pk_us]
      · rw [pk_un h9]; exact he j
  · intro k9 ih H locs ls hI
    obtain ⟨i, hi, hP, hD, hS, hl⟩ := hI
    refine lv_iload_n hx hb dX3_createECCBlock_4 rfl (lv_at hl 0 rfl) ?_
    refine va_gets hx hb hG.sets hS hown (hts _ q370) (fun _ h9 => h9) dX3_createECCBlock_5 ?_
    refine va_tlen (v := nI 16) hx hb hG.setT hS rfl dX3_createECCBlock_8 ?_
    refine lv_icmp_ge (tgt := 32) hx hb dX3_createECCBlock_9 (by decide) (fun c9 => absurd c9 (nI_ge (by omega) (by omega))) (fun _ => ?_)
    refine va_gets hx hb hG.sets hS hown (hts _ q370) (fun _ h9 => h9) dX3_createECCBlock_12 ?_
    refine lv_iload_n hx hb dX3_createECCBlock_15 rfl (lv_at hl 0 rfl) ?_
    refine z_tald hx hb hG.setT hS (by omega) (by decide) rfl dX3_createECCBlock_16 ?_
    refine lv_iload_n hx hb dX3_createECCBlock_17 rfl (lv_at hl 3 rfl) ?_
    refine lv_icmp_ne (tgt := 26) hx hb dX3_createECCBlock_18 (by decide) (fun _ => ?_) (fun c9 => absurd c9 (fun h9 => zidx_lo k hk i (by omega) ((nI_eq (by have := zby_lt zfsN i; exact Nat.lt_trans this (by decide)) (by omega)).mp h9)))
    refine lv_iinc (v := (nI (i + 1))) (lv' := [(3, .int (nI (i + 1))), (2, .int (-1)), (0, .ref S), (1, .int (nI (zch k)))]) hx hb dX3_createECCBlock_26 hl (k := 0) rfl (nI_add i 1) (by decide) rfl (fun ls hl => ?_)
    refine lv_goto (tgt := 4) hx hb dX3_createECCBlock_29 (by decide) ?_
    refine ih H locs ls ⟨i + 1, by omega, hP, hD, hS, lv_sub hl [0, 1, 2, 3] rfl⟩
end
section
/-! encodeECC200; SquareParity -/
theorem zw_cat {k : Nat} {d t0 : Nat → Nat} (j : Nat) (_ : j < zroom k + zch k) : zw k d j = sb_cat (sb_cat t0 0 d) (zroom k) (fun x => ze (zch k) (zfac (zidx k)) d (zroom k) (zch k - 1 - x)) j := by
  unfold zw sb_cat
  split
  · rw [if_neg (by omega), Nat.sub_zero]
  · rfl
/-- p & MAX % n -/
def zix (p : Int32) (n : Nat) : Nat := p.toBitVec.toNat % 2 ^ 31 % n
/-- p & 255 -/
def zlo (p : Int32) : Nat := p.toBitVec.toNat % 2 ^ 8
theorem zlo_lt (p : Int32) : zlo p < 256 := Nat.mod_lt _ (by decide)
theorem zix_lt (p : Int32) {n : Nat} (h : 0 < n) : zix p n < n := Nat.mod_lt _ h
/-- what fill lays at j -/
def zfl (p q : Int32) (j : Nat) : Nat := zlo (p + q * nI j)
theorem zch_part {t : Nat → Nat} {n r : Nat} {a : Nat → Int32} (h : zCh t n a) (hr : r ≤ n) : zCh t r a := fun j hj => h j (by omega)
set_option maxHeartbeats 4000000 in
set_option maxRecDepth 100000 in
/-- encodeECC200: the letters, then the check letters -/
theorem m_X3_encode (l : Launch) (D : va_G) (G : Nat → Nat) {S V Iq k : Nat} {f : Nat → Int32} {d : Nat → Nat} (hk : k < 10) (hd : ∀ i, d i < 256) (hf : sb_Lat d (zroom k) f) : zMet l yX3_encodeECC200 cX3_encodeECC200 11 (Option.some (Jvm.ClassFile.FieldType.object "java/lang/String")) ({ frames := 6, cells := 8, slots := 378, locals := 158 } : Room) D G [.ref S, .ref Iq] [(S, .inr (2, [.ref V, .int (nI 0), .int (nI 0), .int (nI 0)])), (V, .inl (G 2, zroom k, .inl f)), (Iq, .inr (4, [.int (nI 0), .int (nI (zroom k)), .int (nI (zch k)), .int (nI 8), .int (nI 8), .int (nI 1), .int (nI (zroom k)), .int (nI (zch k))]))] (zQr D (fun (u : Nat × (Nat → Int32)) => sb_Lat (zw k d) (zroom k + zch k) u.2) (fun u Z => [(S, .inr (2, [.ref V, .int (nI 0), .int (nI 0), .int (nI 0)])), (V, .inl (G 2, zroom k, .inl f)), (Iq, .inr (4, [.int (nI 0), .int (nI (zroom k)), .int (nI (zch k)), .int (nI 8), .int (nI 8), .int (nI 1), .int (nI (zroom k)), .int (nI (zch k))])), (Z, .inr (2, [.ref u.1, .int (nI 0), .int (nI 0), .int (nI 0)])), (u.1, .inl (G 2, zroom k + zch k, .inl u.2))])) 8 378 := by
  refine z_met (by decide) (Nat.le_of_ble_eq_true rfl) ?_
  intro p e s m below meth c A ls hx hb hr hml hown hlocks hin hts hK hP hD hS hA hG hl
  have hD : va_D A [(S, .inr (2, [.ref V, .int (nI 0), .int (nI 0), .int (nI 0)])), (V, .inl (G 2, zroom k, .inl f)), (Iq, .inr (4, [.int (nI 0), .int (nI (zroom k)), .int (nI (zch k)), .int (nI 8), .int (nI 8), .int (nI 1), .int (nI (zroom k)), .int (nI (zch k))]))] := hD
  have hown : s.vm.findClass RX3 = some m.cls := hown
  have hP : va_P D zCl [(S, .inr (2, [.ref V, .int (nI 0), .int (nI 0), .int (nI 0)])), (V, .inl (G 2, zroom k, .inl f)), (Iq, .inr (4, [.int (nI 0), .int (nI (zroom k)), .int (nI (zch k)), .int (nI 8), .int (nI 8), .int (nI 1), .int (nI (zroom k)), .int (nI (zch k))]))] s.heap := hP
  have hl : lv_has ls 11 [(0, .ref S), (1, .ref Iq)] := hl
  have hro := zroom_in k hk
  have hc := zch_in k hk
  refine lv_aload_n hx hb dX3_encodeECC200_0 rfl (lv_at hl 0 rfl) ?_
  refine z_getc (va_runV (As := []) (rest := []) ⟨hx, hb, hml, hown, hts⟩ (g_J0_length l D G (by omega)) (cwV 0 hts (lw_V q168 q169 q170 q4 q171) rfl rfl rfl (by decide +kernel) ⟨Nat.le_of_ble_eq_true rfl, Nat.le_of_ble_eq_true rfl⟩) (z_preVg (z_rc hK hP 0 2 rfl rfl) (z_preSg hK hP hG hS [0, 1] rfl)) rfl rfl hl.1 rfl (lv_room (Nat.le_of_ble_eq_true rfl)) dX3_encodeECC200_1 ⟨Nat.le_of_ble_eq_true rfl, Nat.le_of_ble_eq_true rfl⟩) ?_
  refine lv_aload_n hx hb dX3_encodeECC200_4 rfl (lv_at hl 1 rfl) ?_
  refine z_getc (va_runV (As := []) (rest := [.int (nI (zroom k))]) ⟨hx, hb, hml, hown, hts⟩ (g_X2_cap l D G ) (cwV 0 hts (lw_V q176 q177 q178 q7 q179) rfl rfl rfl (by decide +kernel) ⟨Nat.le_of_ble_eq_true rfl, Nat.le_of_ble_eq_true rfl⟩) (z_preVg (z_rc hK hP 2 4 rfl rfl) (z_preSg hK hP hG hS [2] rfl)) rfl rfl hl.1 rfl (lv_room (Nat.le_of_ble_eq_true rfl)) dX3_encodeECC200_5 ⟨Nat.le_of_ble_eq_true rfl, Nat.le_of_ble_eq_true rfl⟩) ?_
  refine lv_icmp_eq (tgt := 21) hx hb dX3_encodeECC200_8 (by decide) (fun _ => ?_) (fun c9 => absurd rfl c9)
  refine va_new (ci := 3) (fs := [.null, .int (nI 0), .int (nI 0), .int (nI 0)]) (C := RJ8) (T := TJ8) (N := 4) hx hb hts in_J8 tyJ8 tyJ8_ok hown (hts _ q245) (hts _ q246) (hts _ q14) hK hP hD hS hA rfl (fun j hj => by rcases (show j = 0 ∨ j = 1 ∨ j = 2 ∨ j = 3 by omega) with rfl | rfl | rfl | rfl <;> rfl) (Nat.le_of_ble_eq_true rfl) (Nat.le_of_ble_eq_true rfl) dX3_encodeECC200_21 (fun B H hP hD hS => ?_)
  have hP : va_P D zCl [(S, .inr (2, [.ref V, .int (nI 0), .int (nI 0), .int (nI 0)])), (V, .inl (G 2, zroom k, .inl f)), (Iq, .inr (4, [.int (nI 0), .int (nI (zroom k)), .int (nI (zch k)), .int (nI 8), .int (nI 8), .int (nI 1), .int (nI (zroom k)), .int (nI (zch k))])), (B, .inr (3, [.null, .int (nI 0), .int (nI 0), .int (nI 0)]))] H := hP
  have hD : va_D A [(S, .inr (2, [.ref V, .int (nI 0), .int (nI 0), .int (nI 0)])), (V, .inl (G 2, zroom k, .inl f)), (Iq, .inr (4, [.int (nI 0), .int (nI (zroom k)), .int (nI (zch k)), .int (nI 8), .int (nI 8), .int (nI 1), .int (nI (zroom k)), .int (nI (zch k))])), (B, .inr (3, [.null, .int (nI 0), .int (nI 0), .int (nI 0)]))] := hD
  refine W.widen (k := 1) (n := 4) (Nat.le_of_ble_eq_true rfl) (Nat.le_of_ble_eq_true rfl) ?_
  refine lv_dup hx hb dX3_encodeECC200_24 rfl ?_
  refine lv_aload_n hx hb dX3_encodeECC200_25 rfl (lv_at hl 1 rfl) ?_
  refine z_getc (va_runV (As := []) (rest := [.ref B, .ref B]) ⟨hx, hb, hml, hown, hts⟩ (g_X2_cap l D G ) (cwV 0 hts (lw_V q176 q177 q178 q7 q179) rfl rfl rfl (by decide +kernel) ⟨Nat.le_of_ble_eq_true rfl, Nat.le_of_ble_eq_true rfl⟩) (z_preVg (z_rc hK hP 2 4 rfl rfl) (z_preSg hK hP hG hS [2] rfl)) rfl rfl hl.1 rfl (lv_room (Nat.le_of_ble_eq_true rfl)) dX3_encodeECC200_26 ⟨Nat.le_of_ble_eq_true rfl, Nat.le_of_ble_eq_true rfl⟩) ?_
  refine lv_aload_n hx hb dX3_encodeECC200_29 rfl (lv_at hl 1 rfl) ?_
  refine z_getc (va_runV (As := []) (rest := [.int (nI (zroom k)), .ref B, .ref B]) ⟨hx, hb, hml, hown, hts⟩ (g_X2_ecw l D G ) (cwV 0 hts (lw_V q247 q248 q249 q7 q250) rfl rfl rfl (by decide +kernel) ⟨Nat.le_of_ble_eq_true rfl, Nat.le_of_ble_eq_true rfl⟩) (z_preVg (z_rc hK hP 2 4 rfl rfl) (z_preSg hK hP hG hS [2] rfl)) rfl rfl hl.1 rfl (lv_room (Nat.le_of_ble_eq_true rfl)) dX3_encodeECC200_30 ⟨Nat.le_of_ble_eq_true rfl, Nat.le_of_ble_eq_true rfl⟩) ?_
  refine z_iadd hx hb dX3_encodeECC200_33 ?_
  refine z_callv (wr := [(S, .inr (2, [.ref V, .int (nI 0), .int (nI 0), .int (nI 0)])), (V, .inl (G 2, zroom k, .inl f)), (Iq, .inr (4, [.int (nI 0), .int (nI (zroom k)), .int (nI (zch k)), .int (nI 8), .int (nI 8), .int (nI 1), .int (nI (zroom k)), .int (nI (zch k))]))]) (va_runI (As := [.int (nI (zroom k + zch k))]) (rest := [.ref B]) ⟨hx, hb, hml, hown, hts⟩ (m_J8_init l D G (by omega) H.size) (cwI 1 hts (lw_meth q253) rfl rfl rfl (hts _ q14) (hts _ q251) (hts _ q252) rfl (by decide +kernel) ⟨Nat.le_of_ble_eq_true rfl, Nat.le_of_ble_eq_true rfl⟩) (z_preS hK hP hD hG hS hA [3] rfl (by decide)) rfl rfl hl.1 rfl (lv_room (Nat.le_of_ble_eq_true rfl)) dX3_encodeECC200_34 ⟨Nat.le_of_ble_eq_true rfl, Nat.le_of_ble_eq_true rfl⟩) hP hD hS hA [3] [0, 1, 2] rfl rfl (by decide) (by decide) (fun Y H locs hw hP hD hS => ?_)
  have hP : va_P D zCl [(S, .inr (2, [.ref V, .int (nI 0), .int (nI 0), .int (nI 0)])), (V, .inl (G 2, zroom k, .inl f)), (Iq, .inr (4, [.int (nI 0), .int (nI (zroom k)), .int (nI (zch k)), .int (nI 8), .int (nI 8), .int (nI 1), .int (nI (zroom k)), .int (nI (zch k))])), (B, .inr (3, [.ref Y, .int (nI 0), .int (nI 0), .int (nI 0)])), (Y, .inl (G 2, zroom k + zch k, .inl (fun _ => nI 0)))] H := hP
  have hD : va_D A [(S, .inr (2, [.ref V, .int (nI 0), .int (nI 0), .int (nI 0)])), (V, .inl (G 2, zroom k, .inl f)), (Iq, .inr (4, [.int (nI 0), .int (nI (zroom k)), .int (nI (zch k)), .int (nI 8), .int (nI 8), .int (nI 1), .int (nI (zroom k)), .int (nI (zch k))])), (B, .inr (3, [.ref Y, .int (nI 0), .int (nI 0), .int (nI 0)])), (Y, .inl (G 2, zroom k + zch k, .inl (fun _ => nI 0)))] := hD
  refine lv_astore_n (lv' := [(2, .ref B), (0, .ref S), (1, .ref Iq)]) hx hb dX3_encodeECC200_37 rfl hl (by decide) rfl (fun ls hl => ?_)
  refine lv_aload_n hx hb dX3_encodeECC200_38 rfl (lv_at hl 0 rfl) ?_
  refine lv_aload_n hx hb dX3_encodeECC200_39 rfl (lv_at hl 1 rfl) ?_
  refine z_callr (wr := [(Iq, .inr (4, [.int (nI 0), .int (nI (zroom k)), .int (nI (zch k)), .int (nI 8), .int (nI 8), .int (nI 1), .int (nI (zroom k)), .int (nI (zch k))]))]) (va_runV (As := [.ref S]) (rest := []) ⟨hx, hb, hml, hown, hts⟩ (m_J8_append l D G (by omega) (by omega) (t0 := fun _ => 0) (t := d) (fun j hj => by omega) hf H.size) (cwV 1 hts (lw_V q274 q275 q276 q14 q277) rfl rfl rfl (by decide +kernel) ⟨Nat.le_of_ble_eq_true rfl, Nat.le_of_ble_eq_true rfl⟩) (z_preV (z_rc hK hP 3 3 rfl rfl) (z_preS hK hP hD hG hS hA [3, 4, 0, 1] rfl (by decide))) rfl rfl hl.1 rfl (lv_room (Nat.le_of_ble_eq_true rfl)) dX3_encodeECC200_40 ⟨Nat.le_of_ble_eq_true rfl, Nat.le_of_ble_eq_true rfl⟩) hP hD hS hA [3, 4, 0, 1] [2] rfl rfl (by decide) (by decide) (fun f1 r8 H locs hw hP hD hS => ?_)
  have hP : va_P D zCl [(Iq, .inr (4, [.int (nI 0), .int (nI (zroom k)), .int (nI (zch k)), .int (nI 8), .int (nI 8), .int (nI 1), .int (nI (zroom k)), .int (nI (zch k))])), (B, .inr (3, [.ref Y, .int (nI 0), .int (nI 0), .int (nI (0 + zroom k))])), (Y, .inl (G 2, zroom k + zch k, .inl f1)), (S, .inr (2, [.ref V, .int (nI 0), .int (nI 0), .int (nI 0)])), (V, .inl (G 2, zroom k, .inl f))] H := hP
  have hD : va_D A [(Iq, .inr (4, [.int (nI 0), .int (nI (zroom k)), .int (nI (zch k)), .int (nI 8), .int (nI 8), .int (nI 1), .int (nI (zroom k)), .int (nI (zch k))])), (B, .inr (3, [.ref Y, .int (nI 0), .int (nI 0), .int (nI (0 + zroom k))])), (Y, .inl (G 2, zroom k + zch k, .inl f1)), (S, .inr (2, [.ref V, .int (nI 0), .int (nI 0), .int (nI 0)])), (V, .inl (G 2, zroom k, .inl f))] := hD
  have hw : sb_Lat (sb_cat (fun _ => 0) 0 d) (0 + zroom k) f1 := hw
  rw [show 0 + zroom k = zroom k by omega] at hP hD hw
  have hP : va_P D zCl [(Iq, .inr (4, [.int (nI 0), .int (nI (zroom k)), .int (nI (zch k)), .int (nI 8), .int (nI 8), .int (nI 1), .int (nI (zroom k)), .int (nI (zch k))])), (B, .inr (3, [.ref Y, .int (nI 0), .int (nI 0), .int (nI (zroom k))])), (Y, .inl (G 2, zroom k + zch k, .inl f1)), (S, .inr (2, [.ref V, .int (nI 0), .int (nI 0), .int (nI 0)])), (V, .inl (G 2, zroom k, .inl f))] H := hP
  have hD : va_D A [(Iq, .inr (4, [.int (nI 0), .int (nI (zroom k)), .int (nI (zch k)), .int (nI 8), .int (nI 8), .int (nI 1), .int (nI (zroom k)), .int (nI (zch k))])), (B, .inr (3, [.ref Y, .int (nI 0), .int (nI 0), .int (nI (zroom k))])), (Y, .inl (G 2, zroom k + zch k, .inl f1)), (S, .inr (2, [.ref V, .int (nI 0), .int (nI 0), .int (nI 0)])), (V, .inl (G 2, zroom k, .inl f))] := hD
  have hf1 := hw
  refine lv_pop hx hb dX3_encodeECC200_43 rfl ?_
  refine lv_aload_n hx hb dX3_encodeECC200_44 rfl (lv_at hl 2 rfl) ?_
  refine z_getc (va_runV (As := []) (rest := []) ⟨hx, hb, hml, hown, hts⟩ (g_X2_blocks l D G (by omega) (by omega)) (cwV 0 hts (lw_V q363 q364 q365 q7 q366) rfl rfl rfl (by decide +kernel) ⟨Nat.le_of_ble_eq_true rfl, Nat.le_of_ble_eq_true rfl⟩) (z_preVg (z_rc hK hP 0 4 rfl rfl) (z_preSg hK hP hG hS [0] rfl)) rfl rfl hl.1 rfl (lv_room (Nat.le_of_ble_eq_true rfl)) dX3_encodeECC200_45 ⟨Nat.le_of_ble_eq_true rfl, Nat.le_of_ble_eq_true rfl⟩) ?_
  refine lv_istore_n (lv' := [(3, .int (nI 1)), (2, .ref B), (0, .ref S), (1, .ref Iq)]) hx hb dX3_encodeECC200_48 rfl hl (by decide) rfl (fun ls hl => ?_)
  refine lv_iload_n hx hb dX3_encodeECC200_49 rfl (lv_at hl 0 rfl) ?_
  refine lv_iconst (v := nI 1) hx hb dX3_encodeECC200_50 (by decide) ?_
  refine lv_icmp_ne (tgt := 74) hx hb dX3_encodeECC200_51 (by decide) (fun c9 => absurd rfl c9) (fun _ => ?_)
  refine lv_aload_n hx hb dX3_encodeECC200_54 rfl (lv_at hl 2 rfl) ?_
  refine lv_aload_n hx hb dX3_encodeECC200_55 rfl (lv_at hl 3 rfl) ?_
  refine z_getc (va_runV (As := []) (rest := [.ref S]) ⟨hx, hb, hml, hown, hts⟩ (g_X2_ecw l D G ) (cwV 0 hts (lw_V q247 q248 q249 q7 q250) rfl rfl rfl (by decide +kernel) ⟨Nat.le_of_ble_eq_true rfl, Nat.le_of_ble_eq_true rfl⟩) (z_preVg (z_rc hK hP 0 4 rfl rfl) (z_preSg hK hP hG hS [0] rfl)) rfl rfl hl.1 rfl (lv_room (Nat.le_of_ble_eq_true rfl)) dX3_encodeECC200_56 ⟨Nat.le_of_ble_eq_true rfl, Nat.le_of_ble_eq_true rfl⟩) ?_
  refine z_callr (wr := [(Iq, .inr (4, [.int (nI 0), .int (nI (zroom k)), .int (nI (zch k)), .int (nI 8), .int (nI 8), .int (nI 1), .int (nI (zroom k)), .int (nI (zch k))])), (B, .inr (3, [.ref Y, .int (nI 0), .int (nI 0), .int (nI (zroom k))])), (Y, .inl (G 2, zroom k + zch k, .inl f1))]) (va_runS (As := [.ref S, .int (nI (zch k))]) (rest := []) ⟨hx, hb, hml, hown, hts⟩ (m_X3_ecc l D G hk (by omega) hd hf H.size) (va_cwS 2 hts (lw_S q367 q368 q8 q369) rfl rfl rfl (by decide +kernel) ⟨Nat.le_of_ble_eq_true rfl, Nat.le_of_ble_eq_true rfl⟩) (z_preS hK hP hD hG hS hA [3, 4] rfl (by decide)) rfl rfl hl.1 rfl (lv_room (Nat.le_of_ble_eq_true rfl)) dX3_encodeECC200_59 ⟨Nat.le_of_ble_eq_true rfl, Nat.le_of_ble_eq_true rfl⟩) hP hD hS hA [3, 4] [0, 1, 2] rfl rfl (by decide) (by decide) (fun u T H locs hw hP hD hS => ?_)
  obtain ⟨X, g⟩ := u
  have hP : va_P D zCl [(Iq, .inr (4, [.int (nI 0), .int (nI (zroom k)), .int (nI (zch k)), .int (nI 8), .int (nI 8), .int (nI 1), .int (nI (zroom k)), .int (nI (zch k))])), (B, .inr (3, [.ref Y, .int (nI 0), .int (nI 0), .int (nI (zroom k))])), (Y, .inl (G 2, zroom k + zch k, .inl f1)), (S, .inr (2, [.ref V, .int (nI 0), .int (nI 0), .int (nI 0)])), (V, .inl (G 2, zroom k, .inl f)), (T, .inr (2, [.ref X, .int (nI 0), .int (nI 0), .int (nI 0)])), (X, .inl (G 2, zch k, .inl g))] H := hP
  have hD : va_D A [(Iq, .inr (4, [.int (nI 0), .int (nI (zroom k)), .int (nI (zch k)), .int (nI 8), .int (nI 8), .int (nI 1), .int (nI (zroom k)), .int (nI (zch k))])), (B, .inr (3, [.ref Y, .int (nI 0), .int (nI 0), .int (nI (zroom k))])), (Y, .inl (G 2, zroom k + zch k, .inl f1)), (S, .inr (2, [.ref V, .int (nI 0), .int (nI 0), .int (nI 0)])), (V, .inl (G 2, zroom k, .inl f)), (T, .inr (2, [.ref X, .int (nI 0), .int (nI 0), .int (nI 0)])), (X, .inl (G 2, zch k, .inl g))] := hD
  have hg : sb_Lat (fun x => ze (zch k) (zfac (zidx k)) d (zroom k) (zch k - 1 - x)) (zch k) g := hw
  refine lv_astore (lv' := [(4, .ref T), (3, .int (nI 1)), (2, .ref B), (0, .ref S), (1, .ref Iq)]) hx hb dX3_encodeECC200_62 hl (by decide) rfl (fun ls hl => ?_)
  refine lv_aload_n hx hb dX3_encodeECC200_64 rfl (lv_at hl 2 rfl) ?_
  refine lv_aload hx hb dX3_encodeECC200_65 (lv_at hl 0 rfl) ?_
  refine z_callr (wr := [(Iq, .inr (4, [.int (nI 0), .int (nI (zroom k)), .int (nI (zch k)), .int (nI 8), .int (nI 8), .int (nI 1), .int (nI (zroom k)), .int (nI (zch k))])), (S, .inr (2, [.ref V, .int (nI 0), .int (nI 0), .int (nI 0)])), (V, .inl (G 2, zroom k, .inl f))]) (va_runV (As := [.ref T]) (rest := []) ⟨hx, hb, hml, hown, hts⟩ (m_J8_append l D G (by omega) (by omega) hf1 hg H.size) (cwV 1 hts (lw_V q274 q275 q276 q14 q277) rfl rfl rfl (by decide +kernel) ⟨Nat.le_of_ble_eq_true rfl, Nat.le_of_ble_eq_true rfl⟩) (z_preV (z_rc hK hP 1 3 rfl rfl) (z_preS hK hP hD hG hS hA [1, 2, 5, 6] rfl (by decide))) rfl rfl hl.1 rfl (lv_room (Nat.le_of_ble_eq_true rfl)) dX3_encodeECC200_67 ⟨Nat.le_of_ble_eq_true rfl, Nat.le_of_ble_eq_true rfl⟩) hP hD hS hA [1, 2, 5, 6] [0, 3, 4] rfl rfl (by decide) (by decide) (fun f2 r7 H locs hw hP hD hS => ?_)
  have hP : va_P D zCl [(Iq, .inr (4, [.int (nI 0), .int (nI (zroom k)), .int (nI (zch k)), .int (nI 8), .int (nI 8), .int (nI 1), .int (nI (zroom k)), .int (nI (zch k))])), (S, .inr (2, [.ref V, .int (nI 0), .int (nI 0), .int (nI 0)])), (V, .inl (G 2, zroom k, .inl f)), (B, .inr (3, [.ref Y, .int (nI 0), .int (nI 0), .int (nI (zroom k + zch k))])), (Y, .inl (G 2, zroom k + zch k, .inl f2)), (T, .inr (2, [.ref X, .int (nI 0), .int (nI 0), .int (nI 0)])), (X, .inl (G 2, zch k, .inl g))] H := hP
  have hD : va_D A [(Iq, .inr (4, [.int (nI 0), .int (nI (zroom k)), .int (nI (zch k)), .int (nI 8), .int (nI 8), .int (nI 1), .int (nI (zroom k)), .int (nI (zch k))])), (S, .inr (2, [.ref V, .int (nI 0), .int (nI 0), .int (nI 0)])), (V, .inl (G 2, zroom k, .inl f)), (B, .inr (3, [.ref Y, .int (nI 0), .int (nI 0), .int (nI (zroom k + zch k))])), (Y, .inl (G 2, zroom k + zch k, .inl f2)), (T, .inr (2, [.ref X, .int (nI 0), .int (nI 0), .int (nI 0)])), (X, .inl (G 2, zch k, .inl g))] := hD
  have hf2 : sb_Lat (zw k d) (zroom k + zch k) f2 := sb_lat_congr hw (fun j hj => zw_cat j hj)
  refine lv_pop hx hb dX3_encodeECC200_70 rfl ?_
  refine lv_goto (tgt := 260) hx hb dX3_encodeECC200_71 (by decide) ?_
  refine lv_aload_n hx hb dX3_encodeECC200_260 rfl (lv_at hl 2 rfl) ?_
  refine z_callr (wr := [(Iq, .inr (4, [.int (nI 0), .int (nI (zroom k)), .int (nI (zch k)), .int (nI 8), .int (nI 8), .int (nI 1), .int (nI (zroom k)), .int (nI (zch k))])), (S, .inr (2, [.ref V, .int (nI 0), .int (nI 0), .int (nI 0)])), (V, .inl (G 2, zroom k, .inl f)), (T, .inr (2, [.ref X, .int (nI 0), .int (nI 0), .int (nI 0)])), (X, .inl (G 2, zch k, .inl g))]) (va_runV (As := []) (rest := []) ⟨hx, hb, hml, hown, hts⟩ (m_J8_toString l D G (by omega) hf2 H.size) (cwV 0 hts (lw_V q492 q493 q494 q14 q495) rfl rfl rfl (by decide +kernel) ⟨Nat.le_of_ble_eq_true rfl, Nat.le_of_ble_eq_true rfl⟩) (z_preV (z_rc hK hP 3 3 rfl rfl) (z_preS hK hP hD hG hS hA [3, 4] rfl (by decide))) rfl rfl hl.1 rfl (lv_room (Nat.le_of_ble_eq_true rfl)) dX3_encodeECC200_261 ⟨Nat.le_of_ble_eq_true rfl, Nat.le_of_ble_eq_true rfl⟩) hP hD hS hA [3, 4] [0, 1, 2, 5, 6] rfl rfl (by decide) (by decide) (fun Z2 Z H locs hw hP hD hS => ?_)
  have hP : va_P D zCl [(Iq, .inr (4, [.int (nI 0), .int (nI (zroom k)), .int (nI (zch k)), .int (nI 8), .int (nI 8), .int (nI 1), .int (nI (zroom k)), .int (nI (zch k))])), (S, .inr (2, [.ref V, .int (nI 0), .int (nI 0), .int (nI 0)])), (V, .inl (G 2, zroom k, .inl f)), (T, .inr (2, [.ref X, .int (nI 0), .int (nI 0), .int (nI 0)])), (X, .inl (G 2, zch k, .inl g)), (Z, .inr (2, [.ref Z2, .int (nI 0), .int (nI 0), .int (nI 0)])), (Z2, .inl (G 2, zroom k + zch k, .inl f2)), (B, .inr (3, [.ref Y, .int (nI 0), .int (nI 0), .int (nI (zroom k + zch k))])), (Y, .inl (G 2, zroom k + zch k, .inl f2))] H := hP
  have hD : va_D A [(Iq, .inr (4, [.int (nI 0), .int (nI (zroom k)), .int (nI (zch k)), .int (nI 8), .int (nI 8), .int (nI 1), .int (nI (zroom k)), .int (nI (zch k))])), (S, .inr (2, [.ref V, .int (nI 0), .int (nI 0), .int (nI 0)])), (V, .inl (G 2, zroom k, .inl f)), (T, .inr (2, [.ref X, .int (nI 0), .int (nI 0), .int (nI 0)])), (X, .inl (G 2, zch k, .inl g)), (Z, .inr (2, [.ref Z2, .int (nI 0), .int (nI 0), .int (nI 0)])), (Z2, .inl (G 2, zroom k + zch k, .inl f2)), (B, .inr (3, [.ref Y, .int (nI 0), .int (nI 0), .int (nI (zroom k + zch k))])), (Y, .inl (G 2, zroom k + zch k, .inl f2))] := hD
  have hP := hP.sub (ws' := [(S, .inr (2, [.ref V, .int (nI 0), .int (nI 0), .int (nI 0)])), (V, .inl (G 2, zroom k, .inl f)), (Iq, .inr (4, [.int (nI 0), .int (nI (zroom k)), .int (nI (zch k)), .int (nI 8), .int (nI 8), .int (nI 1), .int (nI (zroom k)), .int (nI (zch k))])), (Z, .inr (2, [.ref Z2, .int (nI 0), .int (nI 0), .int (nI 0)])), (Z2, .inl (G 2, zroom k + zch k, .inl f2))]) [1, 2, 0, 5, 6] rfl
  have hD := hD.sub (ws' := [(S, .inr (2, [.ref V, .int (nI 0), .int (nI 0), .int (nI 0)])), (V, .inl (G 2, zroom k, .inl f)), (Iq, .inr (4, [.int (nI 0), .int (nI (zroom k)), .int (nI (zch k)), .int (nI 8), .int (nI 8), .int (nI 1), .int (nI (zroom k)), .int (nI (zch k))])), (Z, .inr (2, [.ref Z2, .int (nI 0), .int (nI 0), .int (nI 0)])), (Z2, .inl (G 2, zroom k + zch k, .inl f2))]) [1, 2, 0, 5, 6] (by decide) rfl
  refine W.widen (k := 8) (n := 378) (by omega) (by omega) ?_
  exact z_aret hx hb hr (Or.inl ⟨_, rfl⟩) hlocks (Z2, f2) (hf2) hP hD hS dX3_encodeECC200_264
set_option maxHeartbeats 4000000 in
set_option maxRecDepth 100000 in
theorem m_X0_init (l : Launch) (D : va_G) (G : Nat → Nat) {x : Nat} : zMet l yX0_init cX0_init 1 (Option.none : Option Jvm.ClassFile.FieldType) ({ frames := 1, cells := 1, slots := 62, locals := 12 } : Room) D G [.ref x] [(x, .inr (0, [.null, .null]))] (zQv D (fun (_ : Nat) => True) (fun L => [(x, .inr (0, [.ref L, .ref (G 9)])), (L, .inl (G 1, 62, .inl (fun _ => nI 0)))])) 1 62 := by
  refine z_met (by decide) (Nat.le_of_ble_eq_true rfl) ?_
  intro p e s m below meth c A ls hx hb hr hml hown hlocks hin hts hK hP hD hS hA hG hl
  have hD : va_D A [(x, .inr (0, [.null, .null]))] := hD
  have hown : s.vm.findClass RX0 = some m.cls := hown
  have hP : va_P D zCl [(x, .inr (0, [.null, .null]))] s.heap := hP
  have hl : lv_has ls 1 [(0, .ref x)] := hl
  refine lv_aload_n hx hb dX0_init_0 rfl (lv_at hl 0 rfl) ?_
  refine W.objInit hx hb hown (hts _ q25) (hts _ q26) (hts _ q27) rfl (by rw [hml]; exact hl.1) rfl dX0_init_1 (Nat.le_of_ble_eq_true rfl) (Nat.le_of_ble_eq_true rfl) ?_
  refine W.eq (g2 := F0 m 4 ls []) rfl ?_
  refine lv_aload_n hx hb dX0_init_4 rfl (lv_at hl 0 rfl) ?_
  refine lv_bipush (v := nI 62) hx hb dX0_init_5 (by decide) ?_
  refine z_newc hx hb (hts _ q36) hK hP hD hS hA (by omega) (Nat.le_of_ble_eq_true rfl) (Nat.le_of_ble_eq_true rfl) dX0_init_7 (fun L H hP hD hS => ?_)
  have hP : va_P D zCl [(x, .inr (0, [.null, .null])), (L, .inl (G 1, 62, .inl (fun _ => nI 0)))] H := hP
  have hD : va_D A [(x, .inr (0, [.null, .null])), (L, .inl (G 1, 62, .inl (fun _ => nI 0)))] := hD
  refine W.widen (k := 1) (n := 62) (Nat.le_of_ble_eq_true rfl) (Nat.le_of_ble_eq_true rfl) ?_
  refine va_putF (D := D) (ci := 0) (v := .ref L) (ty := .array .char) (C := RX0) (T := TX0) (N := 2) hx hb hts in_X0 tyX0 tyX0_ok nmX0 hown hK hP hD hS 0 rfl rfl 0 (by decide) (hts _ q29) (fun _ h9 => h9) rfl hin rfl (by decide +kernel) rfl rfl (Nat.le_of_ble_eq_true rfl) dX0_init_9 (fun H locs hP hD hS => ?_)
  have hP : va_P D zCl [(x, .inr (0, [.ref L, .null])), (L, .inl (G 1, 62, .inl (fun _ => nI 0)))] H := hP
  have hD : va_D A [(x, .inr (0, [.ref L, .null])), (L, .inl (G 1, 62, .inl (fun _ => nI 0)))] := hD
  refine lv_aload_n hx hb dX0_init_12 rfl (lv_at hl 0 rfl) ?_
  refine va_ldcS hx hb hown hG.eR dX0_init_13 ?_
  refine va_put (D := D) (ci := 0) (v := .ref (G 9)) (ty := .object "java/lang/String") (C := RX0) (T := TX0) (N := 2) hx hb hts in_X0 tyX0 tyX0_ok nmX0 hown hK hP hD hS 0 rfl rfl 1 (by decide) (hts _ q30) (fun _ h9 => h9) rfl (by decide +kernel) rfl rfl (Nat.le_of_ble_eq_true rfl) dX0_init_15 (fun H locs hP hD hS => ?_)
  have hP : va_P D zCl [(x, .inr (0, [.ref L, .ref (G 9)])), (L, .inl (G 1, 62, .inl (fun _ => nI 0)))] H := hP
  have hD : va_D A [(x, .inr (0, [.ref L, .ref (G 9)])), (L, .inl (G 1, 62, .inl (fun _ => nI 0)))] := hD
  have hP := hP.sub (ws' := [(x, .inr (0, [.ref L, .ref (G 9)])), (L, .inl (G 1, 62, .inl (fun _ => nI 0)))]) [0, 1] rfl
  have hD := hD.sub (ws' := [(x, .inr (0, [.ref L, .ref (G 9)])), (L, .inl (G 1, 62, .inl (fun _ => nI 0)))]) [0, 1] (by decide) rfl
  exact z_vret hx hb hr hlocks L (trivial) hP hD hS dX0_init_18
set_option maxHeartbeats 4000000 in
set_option maxRecDepth 100000 in
theorem m_X0_letter (l : Launch) (D : va_G) (G : Nat → Nat) {x L S : Nat} {a : Nat → Int32} (p0 p1 : Int32) : zMet l yX0_letter cX0_letter 3 (Option.none : Option Jvm.ClassFile.FieldType) ({ frames := 0, cells := 0, slots := 0, locals := 0 } : Room) D G [.ref x, .int p0, .int p1] [(x, .inr (0, [.ref L, .ref S])), (L, .inl (G 1, 62, .inl a))] (zQv D (fun (_ : Unit) => True) (fun _ => [(x, .inr (0, [.ref L, .ref S])), (L, .inl (G 1, 62, .inl (upd a (zix p0 62) (nI (zlo p1)))))])) 0 0 := by
  refine z_met (by decide) (Nat.le_of_ble_eq_true rfl) ?_
  intro p e s m below meth c A ls hx hb hr hml hown hlocks hin hts hK hP hD hS hA hG hl
  have hD : va_D A [(x, .inr (0, [.ref L, .ref S])), (L, .inl (G 1, 62, .inl a))] := hD
  have hown : s.vm.findClass RX0 = some m.cls := hown
  have hP : va_P D zCl [(x, .inr (0, [.ref L, .ref S])), (L, .inl (G 1, 62, .inl a))] s.heap := hP
  have hl : lv_has ls 3 [(0, .ref x), (1, .int p0), (2, .int p1)] := hl
  have hi := zix_lt p0 (n := 62) (by decide)
  have hv := zlo_lt p1
  refine lv_aload_n hx hb dX0_letter_0 rfl (lv_at hl 0 rfl) ?_
  refine va_get (D := D) (ci := 0) (v := .ref L) (C := RX0) (T := TX0) (N := 2) hx hb hts in_X0 hown hK hP 0 rfl rfl 0 (by decide) (hts _ q29) (fun _ h9 => h9) rfl dX0_letter_1 ?_
  refine lv_iload_n hx hb dX0_letter_4 rfl (lv_at hl 1 rfl) ?_
  refine lv_ldc (v := 2147483647) hx hb hown (hts _ q42) dX0_letter_5 ?_
  refine z_iandK (M := 2147483647) hx hb 31 (by decide) dX0_letter_7 ?_
  refine lv_bipush (v := nI 62) hx hb dX0_letter_8 (by decide) ?_
  refine z_irem hx hb (by omega) (by omega) (by omega) dX0_letter_10 ?_
  rw [show (.int (nI ((p0.toBitVec.toNat % 2 ^ 31) % 62)) : Value) = .int (nI (zix p0 62)) from rfl]
  refine lv_iload_n hx hb dX0_letter_11 rfl (lv_at hl 2 rfl) ?_
  refine lv_sipush (v := nI 255) hx hb dX0_letter_12 (by decide) ?_
  refine z_iandK (M := (nI 255)) hx hb 8 (by decide) dX0_letter_15 ?_
  rw [show (.int (nI (p1.toBitVec.toNat % 2 ^ 8)) : Value) = .int (nI (zlo p1)) from rfl]
  refine z_i2c hx hb (by omega) dX0_letter_16 ?_
  refine z_cast hx hb hK hP hD hS 1 1 rfl rfl (by omega) (by omega) (by omega) dX0_letter_17 (fun H locs hP hD hS => ?_)
  have hP : va_P D zCl [(x, .inr (0, [.ref L, .ref S])), (L, .inl (G 1, 62, .inl (upd a (zix p0 62) (nI (zlo p1)))))] H := hP
  have hD : va_D A [(x, .inr (0, [.ref L, .ref S])), (L, .inl (G 1, 62, .inl (upd a (zix p0 62) (nI (zlo p1)))))] := hD
  have hP := hP.sub (ws' := [(x, .inr (0, [.ref L, .ref S])), (L, .inl (G 1, 62, .inl (upd a (zix p0 62) (nI (zlo p1)))))]) [0, 1] rfl
  have hD := hD.sub (ws' := [(x, .inr (0, [.ref L, .ref S])), (L, .inl (G 1, 62, .inl (upd a (zix p0 62) (nI (zlo p1)))))]) [0, 1] (by decide) rfl
  exact z_vret hx hb hr hlocks () (trivial) hP hD hS dX0_letter_18
set_option maxHeartbeats 4000000 in
set_option maxRecDepth 100000 in
theorem m_X0_fill (l : Launch) (D : va_G) (G : Nat → Nat) {x L S : Nat} {a : Nat → Int32} (p0 p1 : Int32) : zMet l yX0_fill cX0_fill 4 (Option.none : Option Jvm.ClassFile.FieldType) ({ frames := 0, cells := 0, slots := 0, locals := 0 } : Room) D G [.ref x, .int p0, .int p1] [(x, .inr (0, [.ref L, .ref S])), (L, .inl (G 1, 62, .inl a))] (zQv D (fun (f1 : Nat → Int32) => ∀ j, j < 62 → f1 j = nI (zfl p0 p1 j)) (fun f1 => [(x, .inr (0, [.ref L, .ref S])), (L, .inl (G 1, 62, .inl f1))])) 0 0 := by
  refine z_met (by decide) (Nat.le_of_ble_eq_true rfl) ?_
  intro p e s m below meth c A ls hx hb hr hml hown hlocks hin hts hK hP hD hS hA hG hl
  have hD : va_D A [(x, .inr (0, [.ref L, .ref S])), (L, .inl (G 1, 62, .inl a))] := hD
  have hown : s.vm.findClass RX0 = some m.cls := hown
  have hP : va_P D zCl [(x, .inr (0, [.ref L, .ref S])), (L, .inl (G 1, 62, .inl a))] s.heap := hP
  have hl : lv_has ls 4 [(0, .ref x), (1, .int p0), (2, .int p1)] := hl
  refine lv_iconst (v := nI 0) hx hb dX0_fill_0 (by decide) ?_
  refine lv_istore_n (lv' := [(3, .int (nI 0)), (0, .ref x), (1, .int p0), (2, .int p1)]) hx hb dX0_fill_1 rfl hl (by decide) rfl (fun ls hl => ?_)
  have hl := lv_sub (l' := [(3, .int (nI 0)), (0, .ref x), (1, .int p0), (2, .int p1)]) hl [0, 1, 2, 3] rfl
  refine z_loop (cf := fun k9 => 0) (sf := fun k9 => 0) (I := fun k9 H locs ls => ∃ (i : Nat) (f1 : Nat → Int32), (i + k9 = 62) ∧ (∀ j, j < i → f1 j = nI (zfl p0 p1 j)) ∧ va_P D zCl [(x, .inr (0, [.ref L, .ref S])), (L, .inl (G 1, 62, .inl f1))] H ∧ va_D A [(x, .inr (0, [.ref L, .ref S])), (L, .inl (G 1, 62, .inl f1))] ∧ va_S A s.heap H locs ∧ lv_has ls 4 [(3, .int (nI i)), (0, .ref x), (1, .int p0), (2, .int p1)]) (N := 62) ⟨0, a, by omega, (fun j hj => by omega), hP, hD, hS, hl⟩ ?_ ?_
  · intro H locs ls hI
    obtain ⟨i, f1, hi, hf, hP, hD, hS, hl⟩ := hI
    obtain rfl : i = 62 := by omega
    refine lv_iload_n hx hb dX0_fill_2 rfl (lv_at hl 0 rfl) ?_
    refine lv_bipush (v := nI 62) hx hb dX0_fill_3 (by decide) ?_
    refine lv_icmp_ge (tgt := 30) hx hb dX0_fill_5 (by decide) (fun _ => ?_) (fun c9 => absurd (nI_le (Nat.le_refl _) (by omega)) c9)
    have hP := hP.sub (ws' := [(x, .inr (0, [.ref L, .ref S])), (L, .inl (G 1, 62, .inl f1))]) [0, 1] rfl
    have hD := hD.sub (ws' := [(x, .inr (0, [.ref L, .ref S])), (L, .inl (G 1, 62, .inl f1))]) [0, 1] (by decide) rfl
    exact z_vret hx hb hr hlocks f1 (hf) hP hD hS dX0_fill_30
  · intro k9 ih H locs ls hI
    obtain ⟨i, f1, hi, hf, hP, hD, hS, hl⟩ := hI
    refine lv_iload_n hx hb dX0_fill_2 rfl (lv_at hl 0 rfl) ?_
    refine lv_bipush (v := nI 62) hx hb dX0_fill_3 (by decide) ?_
    refine lv_icmp_ge (tgt := 30) hx hb dX0_fill_5 (by decide) (fun c9 => absurd c9 (nI_ge (by omega) (by omega))) (fun _ => ?_)
    have hv := zlo_lt (p0 + p1 * nI i)
    refine lv_aload_n hx hb dX0_fill_8 rfl (lv_at hl 1 rfl) ?_
    refine va_get (D := D) (ci := 0) (v := .ref L) (C := RX0) (T := TX0) (N := 2) hx hb hts in_X0 hown hK hP 0 rfl rfl 0 (by decide) (hts _ q29) (fun _ h9 => h9) rfl dX0_fill_9 ?_
    refine lv_iload_n hx hb dX0_fill_12 rfl (lv_at hl 0 rfl) ?_
    refine lv_iload_n hx hb dX0_fill_13 rfl (lv_at hl 2 rfl) ?_
    refine lv_iload_n hx hb dX0_fill_14 rfl (lv_at hl 3 rfl) ?_
    refine lv_iload_n hx hb dX0_fill_15 rfl (lv_at hl 0 rfl) ?_
    refine lv_imul hx hb dX0_fill_16 ?_
    refine lv_iadd hx hb dX0_fill_17 ?_
    refine lv_sipush (v := nI 255) hx hb dX0_fill_18 (by decide) ?_
    refine z_iandK (M := (nI 255)) hx hb 8 (by decide) dX0_fill_21 ?_
    rw [show (.int (nI ((p0 + (p1 * (nI i))).toBitVec.toNat % 2 ^ 8)) : Value) = .int (nI (zfl p0 p1 i)) from rfl]
    have hv : zfl p0 p1 i < 256 := hv
    refine z_i2c hx hb (by omega) dX0_fill_22 ?_
    refine z_cast hx hb hK hP hD hS 1 1 rfl rfl (by omega) (by omega) (by omega) dX0_fill_23 (fun H locs hP hD hS => ?_)
    generalize ee : upd f1 i (nI (zfl p0 p1 i)) = f2 at hP hD
    have hP : va_P D zCl [(x, .inr (0, [.ref L, .ref S])), (L, .inl (G 1, 62, .inl f2))] H := hP
    have hD : va_D A [(x, .inr (0, [.ref L, .ref S])), (L, .inl (G 1, 62, .inl f2))] := hD
    refine lv_iinc (v := (nI (i + 1))) (lv' := [(3, .int (nI (i + 1))), (0, .ref x), (1, .int p0), (2, .int p1)]) hx hb dX0_fill_24 hl (k := 0) rfl (nI_add i 1) (by decide) rfl (fun ls hl => ?_)
    refine lv_goto (tgt := 2) hx hb dX0_fill_27 (by decide) ?_
    refine ih H locs ls ⟨i + 1, f2, by omega, ?_, hP, hD, hS, lv_sub hl [0, 1, 2, 3] rfl⟩
    rw [← ee]
    exact z_upd_lt (P := fun j x => x = nI (zfl p0 p1 j)) hf rfl
set_option maxHeartbeats 4000000 in
set_option maxRecDepth 100000 in
/-- SquareParity.write -/
theorem m_X0_write (l : Launch) (D : va_G) (G : Nat → Nat) {x L S k : Nat} {a : Nat → Int32} {d : Nat → Nat} {p0 : Int32} (ek : zix p0 10 = k) (hk : k < 10) (hd : ∀ i, d i < 256) (ha : zCh d 62 a) : zMet l yX0_write cX0_write 3 (Option.some Jvm.ClassFile.FieldType.int) ({ frames := 7, cells := 11, slots := 488, locals := 188 } : Room) D G [.ref x, .int p0] [(x, .inr (0, [.ref L, .ref S])), (L, .inl (G 1, 62, .inl a))] (zQi D (fun (r : Int32) (u : Nat × Nat × (Nat → Int32)) => r = nI (zroom k + zch k) ∧ sb_Lat (zw k d) (zroom k + zch k) u.2.2) (fun u => [(x, .inr (0, [.ref L, .ref u.1])), (L, .inl (G 1, 62, .inl a)), (u.1, .inr (2, [.ref u.2.1, .int (nI 0), .int (nI 0), .int (nI 0)])), (u.2.1, .inl (G 2, zroom k + zch k, .inl u.2.2))])) 11 488 := by
  refine z_met (by decide) (Nat.le_of_ble_eq_true rfl) ?_
  intro p e s m below meth c A ls hx hb hr hml hown hlocks hin hts hK hP hD hS hA hG hl
  have hD : va_D A [(x, .inr (0, [.ref L, .ref S])), (L, .inl (G 1, 62, .inl a))] := hD
  have hown : s.vm.findClass RX0 = some m.cls := hown
  have hP : va_P D zCl [(x, .inr (0, [.ref L, .ref S])), (L, .inl (G 1, 62, .inl a))] s.heap := hP
  have hl : lv_has ls 3 [(0, .ref x), (1, .int p0)] := hl
  have hro := zroom_in k hk
  have hc := zch_in k hk
  refine lv_iload_n hx hb dX0_write_0 rfl (lv_at hl 1 rfl) ?_
  refine lv_ldc (v := 2147483647) hx hb hown (hts _ q42) dX0_write_1 ?_
  refine z_iandK (M := 2147483647) hx hb 31 (by decide) dX0_write_3 ?_
  refine lv_bipush (v := nI 10) hx hb dX0_write_4 (by decide) ?_
  refine z_irem hx hb (by omega) (by omega) (by omega) dX0_write_6 ?_
  rw [show (.int (nI ((p0.toBitVec.toNat % 2 ^ 31) % 10)) : Value) = .int (nI k) from congrArg (fun z => Value.int (nI z)) ek]
  refine lv_istore_n (lv' := [(2, .int (nI k)), (0, .ref x), (1, .int p0)]) hx hb dX0_write_7 rfl hl (by decide) rfl (fun ls hl => ?_)
  refine lv_aload_n hx hb dX0_write_8 rfl (lv_at hl 1 rfl) ?_
  refine va_new (ci := 2) (fs := [.null, .int (nI 0), .int (nI 0), .int (nI 0)]) (C := RJ0) (T := TJ0) (N := 4) hx hb hts in_J0 tyJ0 tyJ0_ok hown (hts _ q51) (hts _ q52) (hts _ q4) hK hP hD hS hA rfl (fun j hj => by rcases (show j = 0 ∨ j = 1 ∨ j = 2 ∨ j = 3 by omega) with rfl | rfl | rfl | rfl <;> rfl) (Nat.le_of_ble_eq_true rfl) (Nat.le_of_ble_eq_true rfl) dX0_write_9 (fun S1 H hP hD hS => ?_)
  have hP : va_P D zCl [(x, .inr (0, [.ref L, .ref S])), (L, .inl (G 1, 62, .inl a)), (S1, .inr (2, [.null, .int (nI 0), .int (nI 0), .int (nI 0)]))] H := hP
  have hD : va_D A [(x, .inr (0, [.ref L, .ref S])), (L, .inl (G 1, 62, .inl a)), (S1, .inr (2, [.null, .int (nI 0), .int (nI 0), .int (nI 0)]))] := hD
  refine W.widen (k := 1) (n := 4) (Nat.le_of_ble_eq_true rfl) (Nat.le_of_ble_eq_true rfl) ?_
  refine lv_dup hx hb dX0_write_12 rfl ?_
  refine lv_aload_n hx hb dX0_write_13 rfl (lv_at hl 1 rfl) ?_
  refine va_get (D := D) (ci := 0) (v := .ref L) (C := RX0) (T := TX0) (N := 2) hx hb hts in_X0 hown hK hP 0 rfl rfl 0 (by decide) (hts _ q29) (fun _ h9 => h9) rfl dX0_write_14 ?_
  refine lv_iconst (v := nI 0) hx hb dX0_write_17 (by decide) ?_
  refine va_gets hx hb hG.rooms hS hown (hts _ q53) (fun _ h9 => h9) dX0_write_18 ?_
  refine lv_iload_n hx hb dX0_write_21 rfl (lv_at hl 0 rfl) ?_
  refine z_tald hx hb hG.roomT hS (by omega) (by decide) rfl dX0_write_22 ?_
  refine z_callv (wr := [(x, .inr (0, [.ref L, .ref S]))]) (va_runI (As := [.ref L, .int (nI 0), .int (nI (zroom k))]) (rest := [.ref S1, .ref x]) ⟨hx, hb, hml, hown, hts⟩ (m_J0_init1 l D G hro.2 (by decide) (by omega) (by omega) (zch_part ha hro.2) H.size) (cwI 3 hts (lw_meth q57) rfl rfl rfl (hts _ q4) (hts _ q55) (hts _ q56) rfl (by decide +kernel) ⟨Nat.le_of_ble_eq_true rfl, Nat.le_of_ble_eq_true rfl⟩) (z_preS hK hP hD hG hS hA [2, 1] rfl (by decide)) rfl rfl hl.1 rfl (lv_room (Nat.le_of_ble_eq_true rfl)) dX0_write_23 ⟨Nat.le_of_ble_eq_true rfl, Nat.le_of_ble_eq_true rfl⟩) hP hD hS hA [2, 1] [0] rfl rfl (by decide) (by decide) (fun u H locs hw hP hD hS => ?_)
  obtain ⟨V, g⟩ := u
  have hP : va_P D zCl [(x, .inr (0, [.ref L, .ref S])), (S1, .inr (2, [.ref V, .int (nI 0), .int (nI 0), .int (nI 0)])), (L, .inl (G 1, 62, .inl a)), (V, .inl (G 2, zroom k, .inl g))] H := hP
  have hD : va_D A [(x, .inr (0, [.ref L, .ref S])), (S1, .inr (2, [.ref V, .int (nI 0), .int (nI 0), .int (nI 0)])), (L, .inl (G 1, 62, .inl a)), (V, .inl (G 2, zroom k, .inl g))] := hD
  have hg : sb_Lat d (zroom k) g := hw
  refine va_new (ci := 4) (fs := [.int (nI 0), .int (nI 0), .int (nI 0), .int (nI 0), .int (nI 0), .int (nI 0), .int (nI 0), .int (nI 0)]) (C := RX2) (T := TX2) (N := 8) hx hb hts in_X2 tyX2 tyX2_ok hown (hts _ q129) (hts _ q130) (hts _ q7) hK hP hD hS hA rfl (fun j hj => by rcases (show j = 0 ∨ j = 1 ∨ j = 2 ∨ j = 3 ∨ j = 4 ∨ j = 5 ∨ j = 6 ∨ j = 7 by omega) with rfl | rfl | rfl | rfl | rfl | rfl | rfl | rfl <;> rfl) (Nat.le_of_ble_eq_true rfl) (Nat.le_of_ble_eq_true rfl) dX0_write_26 (fun Iq H hP hD hS => ?_)
  have hP : va_P D zCl [(x, .inr (0, [.ref L, .ref S])), (S1, .inr (2, [.ref V, .int (nI 0), .int (nI 0), .int (nI 0)])), (L, .inl (G 1, 62, .inl a)), (V, .inl (G 2, zroom k, .inl g)), (Iq, .inr (4, [.int (nI 0), .int (nI 0), .int (nI 0), .int (nI 0), .int (nI 0), .int (nI 0), .int (nI 0), .int (nI 0)]))] H := hP
  have hD : va_D A [(x, .inr (0, [.ref L, .ref S])), (S1, .inr (2, [.ref V, .int (nI 0), .int (nI 0), .int (nI 0)])), (L, .inl (G 1, 62, .inl a)), (V, .inl (G 2, zroom k, .inl g)), (Iq, .inr (4, [.int (nI 0), .int (nI 0), .int (nI 0), .int (nI 0), .int (nI 0), .int (nI 0), .int (nI 0), .int (nI 0)]))] := hD
  refine W.widen (k := 3) (n := 110) (Nat.le_of_ble_eq_true rfl) (Nat.le_of_ble_eq_true rfl) ?_
  refine lv_dup hx hb dX0_write_29 rfl ?_
  refine lv_iconst (v := nI 0) hx hb dX0_write_30 (by decide) ?_
  refine va_gets hx hb hG.rooms hS hown (hts _ q53) (fun _ h9 => h9) dX0_write_31 ?_
  refine lv_iload_n hx hb dX0_write_34 rfl (lv_at hl 0 rfl) ?_
  refine z_tald hx hb hG.roomT hS (by omega) (by decide) rfl dX0_write_35 ?_
  refine va_gets hx hb hG.checks hS hown (hts _ q131) (fun _ h9 => h9) dX0_write_36 ?_
  refine lv_iload_n hx hb dX0_write_39 rfl (lv_at hl 0 rfl) ?_
  refine z_tald hx hb hG.checkT hS (by omega) (by decide) rfl dX0_write_40 ?_
  refine lv_bipush (v := nI 8) hx hb dX0_write_41 (by decide) ?_
  refine lv_bipush (v := nI 8) hx hb dX0_write_43 (by decide) ?_
  refine lv_iconst (v := nI 1) hx hb dX0_write_45 (by decide) ?_
  refine z_callv (wr := [(x, .inr (0, [.ref L, .ref S])), (S1, .inr (2, [.ref V, .int (nI 0), .int (nI 0), .int (nI 0)])), (L, .inl (G 1, 62, .inl a)), (V, .inl (G 2, zroom k, .inl g))]) (va_runI (As := [.int (nI 0), .int (nI (zroom k)), .int (nI (zch k)), .int (nI 8), .int (nI 8), .int (nI 1)]) (rest := [.ref Iq, .ref S1, .ref x]) ⟨hx, hb, hml, hown, hts⟩ (m_X2_init6 l D G  H.size) (cwI 6 hts (lw_meth q135) rfl rfl rfl (hts _ q7) (hts _ q133) (hts _ q134) rfl (by decide +kernel) ⟨Nat.le_of_ble_eq_true rfl, Nat.le_of_ble_eq_true rfl⟩) (z_preS hK hP hD hG hS hA [4] rfl (by decide)) rfl rfl hl.1 rfl (lv_room (Nat.le_of_ble_eq_true rfl)) dX0_write_46 ⟨Nat.le_of_ble_eq_true rfl, Nat.le_of_ble_eq_true rfl⟩) hP hD hS hA [4] [0, 1, 2, 3] rfl rfl (by decide) (by decide) (fun u H locs hw hP hD hS => ?_)
  have hP : va_P D zCl [(x, .inr (0, [.ref L, .ref S])), (S1, .inr (2, [.ref V, .int (nI 0), .int (nI 0), .int (nI 0)])), (L, .inl (G 1, 62, .inl a)), (V, .inl (G 2, zroom k, .inl g)), (Iq, .inr (4, [.int (nI 0), .int (nI (zroom k)), .int (nI (zch k)), .int (nI 8), .int (nI 8), .int (nI 1), .int (nI (zroom k)), .int (nI (zch k))]))] H := hP
  have hD : va_D A [(x, .inr (0, [.ref L, .ref S])), (S1, .inr (2, [.ref V, .int (nI 0), .int (nI 0), .int (nI 0)])), (L, .inl (G 1, 62, .inl a)), (V, .inl (G 2, zroom k, .inl g)), (Iq, .inr (4, [.int (nI 0), .int (nI (zroom k)), .int (nI (zch k)), .int (nI 8), .int (nI 8), .int (nI 1), .int (nI (zroom k)), .int (nI (zch k))]))] := hD
  refine z_callr (wr := [(x, .inr (0, [.ref L, .ref S])), (L, .inl (G 1, 62, .inl a))]) (va_runS (As := [.ref S1, .ref Iq]) (rest := [.ref x]) ⟨hx, hb, hml, hown, hts⟩ (m_X3_encode l D G hk hd hg H.size) (va_cwS 2 hts (lw_S q165 q166 q8 q167) rfl rfl rfl (by decide +kernel) ⟨Nat.le_of_ble_eq_true rfl, Nat.le_of_ble_eq_true rfl⟩) (z_preS hK hP hD hG hS hA [1, 3, 4] rfl (by decide)) rfl rfl hl.1 rfl (lv_room (Nat.le_of_ble_eq_true rfl)) dX0_write_49 ⟨Nat.le_of_ble_eq_true rfl, Nat.le_of_ble_eq_true rfl⟩) hP hD hS hA [1, 3, 4] [0, 2] rfl rfl (by decide) (by decide) (fun u Z H locs hw hP hD hS => ?_)
  obtain ⟨Z2, f2⟩ := u
  have hP : va_P D zCl [(x, .inr (0, [.ref L, .ref S])), (L, .inl (G 1, 62, .inl a)), (S1, .inr (2, [.ref V, .int (nI 0), .int (nI 0), .int (nI 0)])), (V, .inl (G 2, zroom k, .inl g)), (Iq, .inr (4, [.int (nI 0), .int (nI (zroom k)), .int (nI (zch k)), .int (nI 8), .int (nI 8), .int (nI 1), .int (nI (zroom k)), .int (nI (zch k))])), (Z, .inr (2, [.ref Z2, .int (nI 0), .int (nI 0), .int (nI 0)])), (Z2, .inl (G 2, zroom k + zch k, .inl f2))] H := hP
  have hD : va_D A [(x, .inr (0, [.ref L, .ref S])), (L, .inl (G 1, 62, .inl a)), (S1, .inr (2, [.ref V, .int (nI 0), .int (nI 0), .int (nI 0)])), (V, .inl (G 2, zroom k, .inl g)), (Iq, .inr (4, [.int (nI 0), .int (nI (zroom k)), .int (nI (zch k)), .int (nI 8), .int (nI 8), .int (nI 1), .int (nI (zroom k)), .int (nI (zch k))])), (Z, .inr (2, [.ref Z2, .int (nI 0), .int (nI 0), .int (nI 0)])), (Z2, .inl (G 2, zroom k + zch k, .inl f2))] := hD
  refine va_put (D := D) (ci := 0) (v := .ref Z) (ty := .object "java/lang/String") (C := RX0) (T := TX0) (N := 2) hx hb hts in_X0 tyX0 tyX0_ok nmX0 hown hK hP hD hS 0 rfl rfl 1 (by decide) (hts _ q30) (fun _ h9 => h9) rfl (by decide +kernel) rfl rfl (Nat.le_of_ble_eq_true rfl) dX0_write_52 (fun H locs hP hD hS => ?_)
  have hP : va_P D zCl [(x, .inr (0, [.ref L, .ref Z])), (L, .inl (G 1, 62, .inl a)), (S1, .inr (2, [.ref V, .int (nI 0), .int (nI 0), .int (nI 0)])), (V, .inl (G 2, zroom k, .inl g)), (Iq, .inr (4, [.int (nI 0), .int (nI (zroom k)), .int (nI (zch k)), .int (nI 8), .int (nI 8), .int (nI 1), .int (nI (zroom k)), .int (nI (zch k))])), (Z, .inr (2, [.ref Z2, .int (nI 0), .int (nI 0), .int (nI 0)])), (Z2, .inl (G 2, zroom k + zch k, .inl f2))] H := hP
  have hD : va_D A [(x, .inr (0, [.ref L, .ref Z])), (L, .inl (G 1, 62, .inl a)), (S1, .inr (2, [.ref V, .int (nI 0), .int (nI 0), .int (nI 0)])), (V, .inl (G 2, zroom k, .inl g)), (Iq, .inr (4, [.int (nI 0), .int (nI (zroom k)), .int (nI (zch k)), .int (nI 8), .int (nI 8), .int (nI 1), .int (nI (zroom k)), .int (nI (zch k))])), (Z, .inr (2, [.ref Z2, .int (nI 0), .int (nI 0), .int (nI 0)])), (Z2, .inl (G 2, zroom k + zch k, .inl f2))] := hD
  refine lv_aload_n hx hb dX0_write_55 rfl (lv_at hl 1 rfl) ?_
  refine va_get (D := D) (ci := 0) (v := .ref Z) (C := RX0) (T := TX0) (N := 2) hx hb hts in_X0 hown hK hP 0 rfl rfl 1 (by decide) (hts _ q30) (fun _ h9 => h9) rfl dX0_write_56 ?_
  refine z_getc (va_runV (As := []) (rest := []) ⟨hx, hb, hml, hown, hts⟩ (g_J0_length l D G (by omega)) (cwV 0 hts (lw_V q530 q169 q170 q4 q171) rfl rfl rfl (by decide +kernel) ⟨Nat.le_of_ble_eq_true rfl, Nat.le_of_ble_eq_true rfl⟩) (z_preVg (z_rc hK hP 5 2 rfl rfl) (z_preSg hK hP hG hS [5, 6] rfl)) rfl rfl hl.1 rfl (lv_room (Nat.le_of_ble_eq_true rfl)) dX0_write_59 ⟨Nat.le_of_ble_eq_true rfl, Nat.le_of_ble_eq_true rfl⟩) ?_
  have hP := hP.sub (ws' := [(x, .inr (0, [.ref L, .ref Z])), (L, .inl (G 1, 62, .inl a)), (Z, .inr (2, [.ref Z2, .int (nI 0), .int (nI 0), .int (nI 0)])), (Z2, .inl (G 2, zroom k + zch k, .inl f2))]) [0, 1, 5, 6] rfl
  have hD := hD.sub (ws' := [(x, .inr (0, [.ref L, .ref Z])), (L, .inl (G 1, 62, .inl a)), (Z, .inr (2, [.ref Z2, .int (nI 0), .int (nI 0), .int (nI 0)])), (Z2, .inl (G 2, zroom k + zch k, .inl f2))]) [0, 1, 5, 6] (by decide) rfl
  refine W.widen (k := 11) (n := 488) (by omega) (by omega) ?_
  exact z_iret hx hb hr (rfl) hlocks (Z, Z2, f2) (⟨rfl, hw⟩) hP hD hS dX0_write_62
set_option maxHeartbeats 4000000 in
set_option maxRecDepth 100000 in
theorem g_X0_whole (l : Launch) (D : va_G) (G : Nat → Nat) {x L S V n : Nat} {f : Nat → Int32} {t : Nat → Nat} (p0 : Int32) (h1 : 0 < n) (hn : n < 2 ^ 30) (hf : sb_Lat t n f) : zGet l yX0_whole cX0_whole 2 (Option.some Jvm.ClassFile.FieldType.int) ({ frames := 4, cells := 0, slots := 0, locals := 85 } : Room) D G [.ref x, .int p0] [(x, .inr (0, [.ref L, .ref S])), (S, .inr (2, [.ref V, .int (nI 0), .int (nI 0), .int (nI 0)])), (V, .inl (G 2, n, .inl f))] (.int (nI (t (zix p0 n)))) := by
  refine z_gmet (by decide) (Nat.le_of_ble_eq_true rfl) ?_
  intro p e s m below meth c ls hx hb hr hml hown hlocks hts hK hP hS hG hl
  have hown : s.vm.findClass RX0 = some m.cls := hown
  have hP : va_P D zCl [(x, .inr (0, [.ref L, .ref S])), (S, .inr (2, [.ref V, .int (nI 0), .int (nI 0), .int (nI 0)])), (V, .inl (G 2, n, .inl f))] s.heap := hP
  have hl : lv_has ls 2 [(0, .ref x), (1, .int p0)] := hl
  refine lv_aload_n hx hb dX0_whole_0 rfl (lv_at hl 0 rfl) ?_
  refine va_get (D := D) (ci := 0) (v := .ref S) (C := RX0) (T := TX0) (N := 2) hx hb hts in_X0 hown hK hP 0 rfl rfl 1 (by decide) (hts _ q30) (fun _ h9 => h9) rfl dX0_whole_1 ?_
  refine z_getc (va_runV (As := []) (rest := []) ⟨hx, hb, hml, hown, hts⟩ (g_J0_length l D G hn) (cwV 0 hts (lw_V q530 q169 q170 q4 q171) rfl rfl rfl (by decide +kernel) ⟨Nat.le_of_ble_eq_true rfl, Nat.le_of_ble_eq_true rfl⟩) (z_preVg (z_rc hK hP 1 2 rfl rfl) (z_preSg hK hP hG hS [1, 2] rfl)) rfl rfl hl.1 rfl (lv_room (Nat.le_of_ble_eq_true rfl)) dX0_whole_4 ⟨Nat.le_of_ble_eq_true rfl, Nat.le_of_ble_eq_true rfl⟩) ?_
  refine lv_if_ne (tgt := 14) hx hb dX0_whole_7 (by decide) (fun _ => ?_) (fun c9 => absurd c9 (nI_ne0 h1 (by omega)))
  refine lv_aload_n hx hb dX0_whole_14 rfl (lv_at hl 0 rfl) ?_
  refine va_get (D := D) (ci := 0) (v := .ref S) (C := RX0) (T := TX0) (N := 2) hx hb hts in_X0 hown hK hP 0 rfl rfl 1 (by decide) (hts _ q30) (fun _ h9 => h9) rfl dX0_whole_15 ?_
  refine lv_iload_n hx hb dX0_whole_18 rfl (lv_at hl 1 rfl) ?_
  refine lv_ldc (v := 2147483647) hx hb hown (hts _ q42) dX0_whole_19 ?_
  refine z_iandK (M := 2147483647) hx hb 31 (by decide) dX0_whole_21 ?_
  refine lv_aload_n hx hb dX0_whole_22 rfl (lv_at hl 0 rfl) ?_
  refine va_get (D := D) (ci := 0) (v := .ref S) (C := RX0) (T := TX0) (N := 2) hx hb hts in_X0 hown hK hP 0 rfl rfl 1 (by decide) (hts _ q30) (fun _ h9 => h9) rfl dX0_whole_23 ?_
  refine z_getc (va_runV (As := []) (rest := [.int (nI (p0.toBitVec.toNat % 2 ^ 31)), .ref S]) ⟨hx, hb, hml, hown, hts⟩ (g_J0_length l D G hn) (cwV 0 hts (lw_V q530 q169 q170 q4 q171) rfl rfl rfl (by decide +kernel) ⟨Nat.le_of_ble_eq_true rfl, Nat.le_of_ble_eq_true rfl⟩) (z_preVg (z_rc hK hP 1 2 rfl rfl) (z_preSg hK hP hG hS [1, 2] rfl)) rfl rfl hl.1 rfl (lv_room (Nat.le_of_ble_eq_true rfl)) dX0_whole_26 ⟨Nat.le_of_ble_eq_true rfl, Nat.le_of_ble_eq_true rfl⟩) ?_
  refine z_irem hx hb (by omega) (by omega) (by omega) dX0_whole_29 ?_
  rw [show (.int (nI ((p0.toBitVec.toNat % 2 ^ 31) % n)) : Value) = .int (nI (zix p0 n)) from rfl]
  have hi := zix_lt p0 h1
  refine z_getc (va_runV (As := [.int (nI (zix p0 n))]) (rest := []) ⟨hx, hb, hml, hown, hts⟩ (g_J0_charAt l D G hn hf hi) (cwV 1 hts (lw_V q536 q398 q591 q4 q400) rfl rfl rfl (by decide +kernel) ⟨Nat.le_of_ble_eq_true rfl, Nat.le_of_ble_eq_true rfl⟩) (z_preVg (z_rc hK hP 1 2 rfl rfl) (z_preSg hK hP hG hS [1, 2] rfl)) rfl rfl hl.1 rfl (lv_room (Nat.le_of_ble_eq_true rfl)) dX0_whole_30 ⟨Nat.le_of_ble_eq_true rfl, Nat.le_of_ble_eq_true rfl⟩) ?_
  exact z_gret hx hb hr (rfl) hlocks dX0_whole_33
set_option maxHeartbeats 4000000 in
set_option maxRecDepth 100000 in
theorem g_X0_whole0 (l : Launch) (D : va_G) (G : Nat → Nat) {x L : Nat} (p0 : Int32) : zGet l yX0_whole cX0_whole 2 (Option.some Jvm.ClassFile.FieldType.int) ({ frames := 2, cells := 0, slots := 0, locals := 40 } : Room) D G [.ref x, .int p0] [(x, .inr (0, [.ref L, .ref (G 9)]))] (.int (-1)) := by
  refine z_gmet (by decide) (Nat.le_of_ble_eq_true rfl) ?_
  intro p e s m below meth c ls hx hb hr hml hown hlocks hts hK hP hS hG hl
  have hown : s.vm.findClass RX0 = some m.cls := hown
  have hP : va_P D zCl [(x, .inr (0, [.ref L, .ref (G 9)]))] s.heap := hP
  have hl : lv_has ls 2 [(0, .ref x), (1, .int p0)] := hl
  refine lv_aload_n hx hb dX0_whole_0 rfl (lv_at hl 0 rfl) ?_
  refine va_get (D := D) (ci := 0) (v := .ref (G 9)) (C := RX0) (T := TX0) (N := 2) hx hb hts in_X0 hown hK hP 0 rfl rfl 1 (by decide) (hts _ q30) (fun _ h9 => h9) rfl dX0_whole_1 ?_
  refine z_getc (va_runV (As := []) (rest := []) ⟨hx, hb, hml, hown, hts⟩ (g_J0_length0 l D G ) (cwV 0 hts (lw_V q530 q169 q170 q4 q171) rfl rfl rfl (by decide +kernel) ⟨Nat.le_of_ble_eq_true rfl, Nat.le_of_ble_eq_true rfl⟩) (z_preVg (va_Orecv hG.eO hS) (z_preSg hK hP hG hS [] rfl)) rfl rfl hl.1 rfl (lv_room (Nat.le_of_ble_eq_true rfl)) dX0_whole_4 ⟨Nat.le_of_ble_eq_true rfl, Nat.le_of_ble_eq_true rfl⟩) ?_
  refine lv_if_ne (tgt := 14) hx hb dX0_whole_7 (by decide) (fun c9 => absurd (show nI 0 = 0 by decide) c9) (fun _ => ?_)
  refine lv_iconst (v := (-1)) hx hb dX0_whole_10 (by decide) ?_
  refine lv_goto (tgt := 33) hx hb dX0_whole_11 (by decide) ?_
  exact z_gret hx hb hr (rfl) hlocks dX0_whole_33
end
section
/-! SquareParityModel -/
def zbit (j : Nat) : Int32 := if j < 8 then nI (7 - j) else -1
theorem zbit_s : ∀ j, j < 8 → nI (7 - j) + Int32.ofInt (-1) = zbit (j + 1) := by decide +kernel
/-- the next maker polynomial, i places of the present one seen -/
def zmp (n rt i j : Nat) : Nat := (if j < i then zmk n j else 0) ^^^ (if 1 ≤ j ∧ j ≤ i then zp rt (zmk n (j - 1)) else 0)
theorem zmp_0 {n rt j : Nat} : zmp n rt 0 j = 0 := by
  unfold zmp
  rw [if_neg (by omega), if_neg (by omega)]
  rfl
theorem zmp_at {n rt i : Nat} : zmp n rt i i ^^^ zmk n i = zmp n rt (i + 1) i := by
  unfold zmp
  have e1 : (if i < i then zmk n i else 0) = 0 := if_neg (Nat.lt_irrefl i)
  have e2 : (if i < i + 1 then zmk n i else 0) = zmk n i := if_pos (Nat.lt_succ_self i)
  have e3 : (if 1 ≤ i ∧ i ≤ i + 1 then zp rt (zmk n (i - 1)) else 0) = (if 1 ≤ i ∧ i ≤ i then zp rt (zmk n (i - 1)) else 0) := by
    by_cases h : 1 ≤ i
    · rw [if_pos ⟨h, Nat.le_succ i⟩, if_pos ⟨h, Nat.le_refl i⟩]
    · rw [if_neg (fun q => h q.1), if_neg (fun q => h q.1)]
  rw [e1, e2, e3, Nat.zero_xor, Nat.xor_comm]
theorem zmp_up {n rt i : Nat} : zmp n rt i (i + 1) ^^^ zp rt (zmk n i) = zmp n rt (i + 1) (i + 1) := by
  unfold zmp
  have e1 : (if i + 1 < i then zmk n (i + 1) else 0) = 0 := if_neg (by omega)
  have e2 : (if 1 ≤ i + 1 ∧ i + 1 ≤ i then zp rt (zmk n (i + 1 - 1)) else 0) = 0 := if_neg (by omega)
  have e3 : (if i + 1 < i + 1 then zmk n (i + 1) else 0) = 0 := if_neg (by omega)
  have e4 : (if 1 ≤ i + 1 ∧ i + 1 ≤ i + 1 then zp rt (zmk n (i + 1 - 1)) else 0) = zp rt (zmk n i) := if_pos (by omega)
  rw [e1, e2, e3, e4, Nat.xor_self]
theorem zmp_ne {n rt i j : Nat} (h1 : j ≠ i) (h2 : j ≠ i + 1) : zmp n rt (i + 1) j = zmp n rt i j := by
  unfold zmp
  congr 1
  · by_cases h : j < i
    · rw [if_pos (by omega), if_pos h]
    · rw [if_neg (by omega), if_neg h]
  · by_cases h : 1 ≤ j ∧ j ≤ i
    · rw [if_pos (by omega), if_pos h]
    · rw [if_neg (by omega), if_neg h]
theorem zmp_end {n j : Nat} (h : n < 36) (hj : j < n + 2) : zmp n (zrt (n + 1)) (n + 1) j = zmk (n + 1) j := by
  rw [zmk_s h hj]
  unfold zmp
  congr 1
  · by_cases q : j < n + 1
    · rw [if_pos q, show Nat.ble j n = true from Nat.ble_eq_true_of_le (by omega)]; rfl
    · rw [if_neg q, show Nat.ble j n = false from by rw [Bool.eq_false_iff]; intro z; have := Nat.le_of_ble_eq_true z; omega]; rfl
  · cases j with
    | zero => rfl
    | succ j => rw [if_pos (by omega)]; rfl
theorem zmk_lt (n j : Nat) : zmk n j < 256 := zby_lt _ _
theorem zrt_lt (n : Nat) : zrt n < 256 := zby_lt _ _
/-- the reference's division: row i, j places done -/
def zli (R C : Nat) (g d : Nat → Nat) (i j q : Nat) : Nat := if i ≤ q ∧ q < i + j then zl R C g d i q ^^^ zp (zl R C g d i i) (g (q - i)) else zl R C g d i q
theorem zli_0 {R C : Nat} {g d : Nat → Nat} {i q : Nat} : zli R C g d i 0 q = zl R C g d i q := by
  unfold zli
  rw [if_neg (by omega)]
theorem zli_at {R C : Nat} {g d : Nat → Nat} {i j : Nat} : zli R C g d i j (i + j) = zl R C g d i (i + j) := by
  unfold zli
  rw [if_neg (by omega)]
theorem zli_s {R C : Nat} {g d : Nat → Nat} {i j : Nat} : zl R C g d i (i + j) ^^^ zp (zl R C g d i i) (g j) = zli R C g d i (j + 1) (i + j) := by
  unfold zli
  rw [if_pos (by omega), show i + j - i = j by omega]
theorem zli_ne {R C : Nat} {g d : Nat → Nat} {i j q : Nat} (h : q ≠ i + j) : zli R C g d i (j + 1) q = zli R C g d i j q := by
  unfold zli
  by_cases h9 : i ≤ q ∧ q < i + j
  · rw [if_pos (by omega), if_pos h9]
  · rw [if_neg (by omega), if_neg h9]
theorem zli_end {R C : Nat} {g d : Nat → Nat} {i q : Nat} : zli R C g d i (C + 1) q = zl R C g d (i + 1) q := by
  show _ = (if i ≤ q ∧ q ≤ i + C then zl R C g d i q ^^^ zp (zl R C g d i i) (g (q - i)) else zl R C g d i q)
  unfold zli
  by_cases h9 : i ≤ q ∧ q ≤ i + C
  · rw [if_pos (by omega), if_pos h9]
  · rw [if_neg (by omega), if_neg h9]
set_option maxHeartbeats 4000000 in
set_option maxRecDepth 100000 in
theorem m_X1_init (l : Launch) (D : va_G) (G : Nat → Nat) {x : Nat} : zMet l yX1_init cX1_init 1 (Option.none : Option Jvm.ClassFile.FieldType) ({ frames := 1, cells := 2, slots := 62, locals := 12 } : Room) D G [.ref x] [(x, .inr (1, [.null, .null]))] (zQv D (fun (_ : Nat × Nat) => True) (fun u => [(x, .inr (1, [.ref u.1, .ref u.2])), (u.1, .inl (G 0, 62, .inl (fun _ => nI 0))), (u.2, .inl (G 0, 0, .inl (fun _ => nI 0)))])) 2 62 := by
  refine z_met (by decide) (Nat.le_of_ble_eq_true rfl) ?_
  intro p e s m below meth c A ls hx hb hr hml hown hlocks hin hts hK hP hD hS hA hG hl
  have hD : va_D A [(x, .inr (1, [.null, .null]))] := hD
  have hown : s.vm.findClass RX1 = some m.cls := hown
  have hP : va_P D zCl [(x, .inr (1, [.null, .null]))] s.heap := hP
  have hl : lv_has ls 1 [(0, .ref x)] := hl
  refine lv_aload_n hx hb dX1_init_0 rfl (lv_at hl 0 rfl) ?_
  refine W.objInit hx hb hown (hts _ q542) (hts _ q26) (hts _ q27) rfl (by rw [hml]; exact hl.1) rfl dX1_init_1 (Nat.le_of_ble_eq_true rfl) (Nat.le_of_ble_eq_true rfl) ?_
  refine W.eq (g2 := F0 m 4 ls []) rfl ?_
  refine lv_aload_n hx hb dX1_init_4 rfl (lv_at hl 0 rfl) ?_
  refine lv_bipush (v := nI 62) hx hb dX1_init_5 (by decide) ?_
  refine z_newi hx hb (hts _ q531) hK hP hD hS hA (by omega) (Nat.le_of_ble_eq_true rfl) (Nat.le_of_ble_eq_true rfl) dX1_init_7 (fun L H hP hD hS => ?_)
  have hP : va_P D zCl [(x, .inr (1, [.null, .null])), (L, .inl (G 0, 62, .inl (fun _ => nI 0)))] H := hP
  have hD : va_D A [(x, .inr (1, [.null, .null])), (L, .inl (G 0, 62, .inl (fun _ => nI 0)))] := hD
  refine W.widen (k := 1) (n := 62) (Nat.le_of_ble_eq_true rfl) (Nat.le_of_ble_eq_true rfl) ?_
  refine va_putF (D := D) (ci := 1) (v := .ref L) (ty := .array .int) (C := RX1) (T := TX1) (N := 2) hx hb hts in_X1 tyX1 tyX1_ok nmX1 hown hK hP hD hS 0 rfl rfl 0 (by decide) (hts _ q543) (fun _ h9 => h9) rfl hin rfl (by decide +kernel) rfl rfl (Nat.le_of_ble_eq_true rfl) dX1_init_9 (fun H locs hP hD hS => ?_)
  have hP : va_P D zCl [(x, .inr (1, [.ref L, .null])), (L, .inl (G 0, 62, .inl (fun _ => nI 0)))] H := hP
  have hD : va_D A [(x, .inr (1, [.ref L, .null])), (L, .inl (G 0, 62, .inl (fun _ => nI 0)))] := hD
  refine lv_aload_n hx hb dX1_init_12 rfl (lv_at hl 0 rfl) ?_
  refine lv_iconst (v := nI 0) hx hb dX1_init_13 (by decide) ?_
  refine z_newi hx hb (hts _ q531) hK hP hD hS hA (by omega) (Nat.le_of_ble_eq_true rfl) (Nat.le_of_ble_eq_true rfl) dX1_init_14 (fun S H hP hD hS => ?_)
  have hP : va_P D zCl [(x, .inr (1, [.ref L, .null])), (L, .inl (G 0, 62, .inl (fun _ => nI 0))), (S, .inl (G 0, 0, .inl (fun _ => nI 0)))] H := hP
  have hD : va_D A [(x, .inr (1, [.ref L, .null])), (L, .inl (G 0, 62, .inl (fun _ => nI 0))), (S, .inl (G 0, 0, .inl (fun _ => nI 0)))] := hD
  refine W.widen (k := 2) (n := 62) (Nat.le_of_ble_eq_true rfl) (Nat.le_of_ble_eq_true rfl) ?_
  refine va_put (D := D) (ci := 1) (v := .ref S) (ty := .array .int) (C := RX1) (T := TX1) (N := 2) hx hb hts in_X1 tyX1 tyX1_ok nmX1 hown hK hP hD hS 0 rfl rfl 1 (by decide) (hts _ q544) (fun _ h9 => h9) rfl (by decide +kernel) rfl rfl (Nat.le_of_ble_eq_true rfl) dX1_init_16 (fun H locs hP hD hS => ?_)
  have hP : va_P D zCl [(x, .inr (1, [.ref L, .ref S])), (L, .inl (G 0, 62, .inl (fun _ => nI 0))), (S, .inl (G 0, 0, .inl (fun _ => nI 0)))] H := hP
  have hD : va_D A [(x, .inr (1, [.ref L, .ref S])), (L, .inl (G 0, 62, .inl (fun _ => nI 0))), (S, .inl (G 0, 0, .inl (fun _ => nI 0)))] := hD
  have hP := hP.sub (ws' := [(x, .inr (1, [.ref L, .ref S])), (L, .inl (G 0, 62, .inl (fun _ => nI 0))), (S, .inl (G 0, 0, .inl (fun _ => nI 0)))]) [0, 1, 2] rfl
  have hD := hD.sub (ws' := [(x, .inr (1, [.ref L, .ref S])), (L, .inl (G 0, 62, .inl (fun _ => nI 0))), (S, .inl (G 0, 0, .inl (fun _ => nI 0)))]) [0, 1, 2] (by decide) rfl
  exact z_vret hx hb hr hlocks (L, S) (trivial) hP hD hS dX1_init_19
set_option maxHeartbeats 4000000 in
set_option maxRecDepth 100000 in
theorem m_X1_room (l : Launch) (D : va_G) (G : Nat → Nat) {k : Nat} (hk : k < 10) : zMet l yX1_room cX1_room 2 (Option.some Jvm.ClassFile.FieldType.int) ({ frames := 0, cells := 1, slots := 10, locals := 0 } : Room) D G [.int (nI k)] [] (zQi D (fun (r : Int32) (_ : Unit) => r = nI (zroom k)) (fun _ => [])) 1 10 := by
  refine z_met (by decide) (Nat.le_of_ble_eq_true rfl) ?_
  intro p e s m below meth c A ls hx hb hr hml hown hlocks hin hts hK hP hD hS hA hG hl
  have hD : va_D A [] := hD
  have hown : s.vm.findClass RX1 = some m.cls := hown
  have hP : va_P D zCl [] s.heap := hP
  have hl : lv_has ls 2 [(0, .int (nI k))] := hl
  refine lv_bipush (v := nI 10) hx hb dX1_room_0 (by decide) ?_
  refine z_newi hx hb (hts _ q531) hK hP hD hS hA (by omega) (Nat.le_of_ble_eq_true rfl) (Nat.le_of_ble_eq_true rfl) dX1_room_2 (fun T H hP hD hS => ?_)
  have hP : va_P D zCl [(T, .inl (G 0, 10, .inl (fun _ => nI 0)))] H := hP
  have hD : va_D A [(T, .inl (G 0, 10, .inl (fun _ => nI 0)))] := hD
  refine W.widen (k := 1) (n := 10) (Nat.le_of_ble_eq_true rfl) (Nat.le_of_ble_eq_true rfl) ?_
  refine lv_dup hx hb dX1_room_4 rfl ?_
  refine lv_iconst (v := nI 0) hx hb dX1_room_5 (by decide) ?_
  refine lv_iconst (v := nI 3) hx hb dX1_room_6 (by decide) ?_
  refine z_iast hx hb hK hP hD hS 0 0 rfl rfl (by omega) (by omega) dX1_room_7 (fun H locs hP hD hS => ?_)
  generalize et0 : upd (fun _ => nI 0) 0 (nI 3) = t0 at hP hD
  have hP : va_P D zCl [(T, .inl (G 0, 10, .inl t0))] H := hP
  have hD : va_D A [(T, .inl (G 0, 10, .inl t0))] := hD
  refine lv_dup hx hb dX1_room_8 rfl ?_
  refine lv_iconst (v := nI 1) hx hb dX1_room_9 (by decide) ?_
  refine lv_iconst (v := nI 5) hx hb dX1_room_10 (by decide) ?_
  refine z_iast hx hb hK hP hD hS 0 0 rfl rfl (by omega) (by omega) dX1_room_11 (fun H locs hP hD hS => ?_)
  generalize et1 : upd t0 1 (nI 5) = t1 at hP hD
  have hP : va_P D zCl [(T, .inl (G 0, 10, .inl t1))] H := hP
  have hD : va_D A [(T, .inl (G 0, 10, .inl t1))] := hD
  refine lv_dup hx hb dX1_room_12 rfl ?_
  refine lv_iconst (v := nI 2) hx hb dX1_room_13 (by decide) ?_
  refine lv_bipush (v := nI 8) hx hb dX1_room_14 (by decide) ?_
  refine z_iast hx hb hK hP hD hS 0 0 rfl rfl (by omega) (by omega) dX1_room_16 (fun H locs hP hD hS => ?_)
  generalize et2 : upd t1 2 (nI 8) = t2 at hP hD
  have hP : va_P D zCl [(T, .inl (G 0, 10, .inl t2))] H := hP
  have hD : va_D A [(T, .inl (G 0, 10, .inl t2))] := hD
  refine lv_dup hx hb dX1_room_17 rfl ?_
  refine lv_iconst (v := nI 3) hx hb dX1_room_18 (by decide) ?_
  refine lv_bipush (v := nI 12) hx hb dX1_room_19 (by decide) ?_
  refine z_iast hx hb hK hP hD hS 0 0 rfl rfl (by omega) (by omega) dX1_room_21 (fun H locs hP hD hS => ?_)
  generalize et3 : upd t2 3 (nI 12) = t3 at hP hD
  have hP : va_P D zCl [(T, .inl (G 0, 10, .inl t3))] H := hP
  have hD : va_D A [(T, .inl (G 0, 10, .inl t3))] := hD
  refine lv_dup hx hb dX1_room_22 rfl ?_
  refine lv_iconst (v := nI 4) hx hb dX1_room_23 (by decide) ?_
  refine lv_bipush (v := nI 18) hx hb dX1_room_24 (by decide) ?_
  refine z_iast hx hb hK hP hD hS 0 0 rfl rfl (by omega) (by omega) dX1_room_26 (fun H locs hP hD hS => ?_)
  generalize et4 : upd t3 4 (nI 18) = t4 at hP hD
  have hP : va_P D zCl [(T, .inl (G 0, 10, .inl t4))] H := hP
  have hD : va_D A [(T, .inl (G 0, 10, .inl t4))] := hD
  refine lv_dup hx hb dX1_room_27 rfl ?_
  refine lv_iconst (v := nI 5) hx hb dX1_room_28 (by decide) ?_
  refine lv_bipush (v := nI 22) hx hb dX1_room_29 (by decide) ?_
  refine z_iast hx hb hK hP hD hS 0 0 rfl rfl (by omega) (by omega) dX1_room_31 (fun H locs hP hD hS => ?_)
  generalize et5 : upd t4 5 (nI 22) = t5 at hP hD
  have hP : va_P D zCl [(T, .inl (G 0, 10, .inl t5))] H := hP
  have hD : va_D A [(T, .inl (G 0, 10, .inl t5))] := hD
  refine lv_dup hx hb dX1_room_32 rfl ?_
  refine lv_bipush (v := nI 6) hx hb dX1_room_33 (by decide) ?_
  refine lv_bipush (v := nI 30) hx hb dX1_room_35 (by decide) ?_
  refine z_iast hx hb hK hP hD hS 0 0 rfl rfl (by omega) (by omega) dX1_room_37 (fun H locs hP hD hS => ?_)
  generalize et6 : upd t5 6 (nI 30) = t6 at hP hD
  have hP : va_P D zCl [(T, .inl (G 0, 10, .inl t6))] H := hP
  have hD : va_D A [(T, .inl (G 0, 10, .inl t6))] := hD
  refine lv_dup hx hb dX1_room_38 rfl ?_
  refine lv_bipush (v := nI 7) hx hb dX1_room_39 (by decide) ?_
  refine lv_bipush (v := nI 36) hx hb dX1_room_41 (by decide) ?_
  refine z_iast hx hb hK hP hD hS 0 0 rfl rfl (by omega) (by omega) dX1_room_43 (fun H locs hP hD hS => ?_)
  generalize et7 : upd t6 7 (nI 36) = t7 at hP hD
  have hP : va_P D zCl [(T, .inl (G 0, 10, .inl t7))] H := hP
  have hD : va_D A [(T, .inl (G 0, 10, .inl t7))] := hD
  refine lv_dup hx hb dX1_room_44 rfl ?_
  refine lv_bipush (v := nI 8) hx hb dX1_room_45 (by decide) ?_
  refine lv_bipush (v := nI 44) hx hb dX1_room_47 (by decide) ?_
  refine z_iast hx hb hK hP hD hS 0 0 rfl rfl (by omega) (by omega) dX1_room_49 (fun H locs hP hD hS => ?_)
  generalize et8 : upd t7 8 (nI 44) = t8 at hP hD
  have hP : va_P D zCl [(T, .inl (G 0, 10, .inl t8))] H := hP
  have hD : va_D A [(T, .inl (G 0, 10, .inl t8))] := hD
  refine lv_dup hx hb dX1_room_50 rfl ?_
  refine lv_bipush (v := nI 9) hx hb dX1_room_51 (by decide) ?_
  refine lv_bipush (v := nI 62) hx hb dX1_room_53 (by decide) ?_
  refine z_iast hx hb hK hP hD hS 0 0 rfl rfl (by omega) (by omega) dX1_room_55 (fun H locs hP hD hS => ?_)
  generalize et9 : upd t8 9 (nI 62) = t9 at hP hD
  have hP : va_P D zCl [(T, .inl (G 0, 10, .inl t9))] H := hP
  have hD : va_D A [(T, .inl (G 0, 10, .inl t9))] := hD
  refine lv_astore_n (lv' := [(1, .ref T), (0, .int (nI k))]) hx hb dX1_room_56 rfl hl (by decide) rfl (fun ls hl => ?_)
  refine lv_aload_n hx hb dX1_room_57 rfl (lv_at hl 0 rfl) ?_
  refine lv_iload_n hx hb dX1_room_58 rfl (lv_at hl 1 rfl) ?_
  have ht9 : t9 k = nI (zroom k) := by
    subst et0 et1 et2 et3 et4 et5 et6 et7 et8 et9
    exact (show ∀ k, k < 10 → _ = nI (zroom k) by decide +kernel) k hk
  refine z_iald (v := nI (zroom k)) hx hb hK hP 0 0 rfl rfl (by omega) (by omega) ht9 dX1_room_59 ?_
  have hP := hP.sub (ws' := []) [] rfl
  have hD := hD.sub (ws' := []) [] (by decide) rfl
  exact z_iret hx hb hr (rfl) hlocks () (rfl) hP hD hS dX1_room_60
set_option maxHeartbeats 4000000 in
set_option maxRecDepth 100000 in
theorem m_X1_checks (l : Launch) (D : va_G) (G : Nat → Nat) {k : Nat} (hk : k < 10) : zMet l yX1_checks cX1_checks 2 (Option.some Jvm.ClassFile.FieldType.int) ({ frames := 0, cells := 1, slots := 10, locals := 0 } : Room) D G [.int (nI k)] [] (zQi D (fun (r : Int32) (_ : Unit) => r = nI (zch k)) (fun _ => [])) 1 10 := by
  refine z_met (by decide) (Nat.le_of_ble_eq_true rfl) ?_
  intro p e s m below meth c A ls hx hb hr hml hown hlocks hin hts hK hP hD hS hA hG hl
  have hD : va_D A [] := hD
  have hown : s.vm.findClass RX1 = some m.cls := hown
  have hP : va_P D zCl [] s.heap := hP
  have hl : lv_has ls 2 [(0, .int (nI k))] := hl
  refine lv_bipush (v := nI 10) hx hb dX1_checks_0 (by decide) ?_
  refine z_newi hx hb (hts _ q531) hK hP hD hS hA (by omega) (Nat.le_of_ble_eq_true rfl) (Nat.le_of_ble_eq_true rfl) dX1_checks_2 (fun T H hP hD hS => ?_)
  have hP : va_P D zCl [(T, .inl (G 0, 10, .inl (fun _ => nI 0)))] H := hP
  have hD : va_D A [(T, .inl (G 0, 10, .inl (fun _ => nI 0)))] := hD
  refine W.widen (k := 1) (n := 10) (Nat.le_of_ble_eq_true rfl) (Nat.le_of_ble_eq_true rfl) ?_
  refine lv_dup hx hb dX1_checks_4 rfl ?_
  refine lv_iconst (v := nI 0) hx hb dX1_checks_5 (by decide) ?_
  refine lv_iconst (v := nI 5) hx hb dX1_checks_6 (by decide) ?_
  refine z_iast hx hb hK hP hD hS 0 0 rfl rfl (by omega) (by omega) dX1_checks_7 (fun H locs hP hD hS => ?_)
  generalize et0 : upd (fun _ => nI 0) 0 (nI 5) = t0 at hP hD
  have hP : va_P D zCl [(T, .inl (G 0, 10, .inl t0))] H := hP
  have hD : va_D A [(T, .inl (G 0, 10, .inl t0))] := hD
  refine lv_dup hx hb dX1_checks_8 rfl ?_
  refine lv_iconst (v := nI 1) hx hb dX1_checks_9 (by decide) ?_
  refine lv_bipush (v := nI 7) hx hb dX1_checks_10 (by decide) ?_
  refine z_iast hx hb hK hP hD hS 0 0 rfl rfl (by omega) (by omega) dX1_checks_12 (fun H locs hP hD hS => ?_)
  generalize et1 : upd t0 1 (nI 7) = t1 at hP hD
  have hP : va_P D zCl [(T, .inl (G 0, 10, .inl t1))] H := hP
  have hD : va_D A [(T, .inl (G 0, 10, .inl t1))] := hD
  refine lv_dup hx hb dX1_checks_13 rfl ?_
  refine lv_iconst (v := nI 2) hx hb dX1_checks_14 (by decide) ?_
  refine lv_bipush (v := nI 10) hx hb dX1_checks_15 (by decide) ?_
  refine z_iast hx hb hK hP hD hS 0 0 rfl rfl (by omega) (by omega) dX1_checks_17 (fun H locs hP hD hS => ?_)
  generalize et2 : upd t1 2 (nI 10) = t2 at hP hD
  have hP : va_P D zCl [(T, .inl (G 0, 10, .inl t2))] H := hP
  have hD : va_D A [(T, .inl (G 0, 10, .inl t2))] := hD
  refine lv_dup hx hb dX1_checks_18 rfl ?_
  refine lv_iconst (v := nI 3) hx hb dX1_checks_19 (by decide) ?_
  refine lv_bipush (v := nI 12) hx hb dX1_checks_20 (by decide) ?_
  refine z_iast hx hb hK hP hD hS 0 0 rfl rfl (by omega) (by omega) dX1_checks_22 (fun H locs hP hD hS => ?_)
  generalize et3 : upd t2 3 (nI 12) = t3 at hP hD
  have hP : va_P D zCl [(T, .inl (G 0, 10, .inl t3))] H := hP
  have hD : va_D A [(T, .inl (G 0, 10, .inl t3))] := hD
  refine lv_dup hx hb dX1_checks_23 rfl ?_
  refine lv_iconst (v := nI 4) hx hb dX1_checks_24 (by decide) ?_
  refine lv_bipush (v := nI 14) hx hb dX1_checks_25 (by decide) ?_
  refine z_iast hx hb hK hP hD hS 0 0 rfl rfl (by omega) (by omega) dX1_checks_27 (fun H locs hP hD hS => ?_)
  generalize et4 : upd t3 4 (nI 14) = t4 at hP hD
  have hP : va_P D zCl [(T, .inl (G 0, 10, .inl t4))] H := hP
  have hD : va_D A [(T, .inl (G 0, 10, .inl t4))] := hD
  refine lv_dup hx hb dX1_checks_28 rfl ?_
  refine lv_iconst (v := nI 5) hx hb dX1_checks_29 (by decide) ?_
  refine lv_bipush (v := nI 18) hx hb dX1_checks_30 (by decide) ?_
  refine z_iast hx hb hK hP hD hS 0 0 rfl rfl (by omega) (by omega) dX1_checks_32 (fun H locs hP hD hS => ?_)
  generalize et5 : upd t4 5 (nI 18) = t5 at hP hD
  have hP : va_P D zCl [(T, .inl (G 0, 10, .inl t5))] H := hP
  have hD : va_D A [(T, .inl (G 0, 10, .inl t5))] := hD
  refine lv_dup hx hb dX1_checks_33 rfl ?_
  refine lv_bipush (v := nI 6) hx hb dX1_checks_34 (by decide) ?_
  refine lv_bipush (v := nI 20) hx hb dX1_checks_36 (by decide) ?_
  refine z_iast hx hb hK hP hD hS 0 0 rfl rfl (by omega) (by omega) dX1_checks_38 (fun H locs hP hD hS => ?_)
  generalize et6 : upd t5 6 (nI 20) = t6 at hP hD
  have hP : va_P D zCl [(T, .inl (G 0, 10, .inl t6))] H := hP
  have hD : va_D A [(T, .inl (G 0, 10, .inl t6))] := hD
  refine lv_dup hx hb dX1_checks_39 rfl ?_
  refine lv_bipush (v := nI 7) hx hb dX1_checks_40 (by decide) ?_
  refine lv_bipush (v := nI 24) hx hb dX1_checks_42 (by decide) ?_
  refine z_iast hx hb hK hP hD hS 0 0 rfl rfl (by omega) (by omega) dX1_checks_44 (fun H locs hP hD hS => ?_)
  generalize et7 : upd t6 7 (nI 24) = t7 at hP hD
  have hP : va_P D zCl [(T, .inl (G 0, 10, .inl t7))] H := hP
  have hD : va_D A [(T, .inl (G 0, 10, .inl t7))] := hD
  refine lv_dup hx hb dX1_checks_45 rfl ?_
  refine lv_bipush (v := nI 8) hx hb dX1_checks_46 (by decide) ?_
  refine lv_bipush (v := nI 28) hx hb dX1_checks_48 (by decide) ?_
  refine z_iast hx hb hK hP hD hS 0 0 rfl rfl (by omega) (by omega) dX1_checks_50 (fun H locs hP hD hS => ?_)
  generalize et8 : upd t7 8 (nI 28) = t8 at hP hD
  have hP : va_P D zCl [(T, .inl (G 0, 10, .inl t8))] H := hP
  have hD : va_D A [(T, .inl (G 0, 10, .inl t8))] := hD
  refine lv_dup hx hb dX1_checks_51 rfl ?_
  refine lv_bipush (v := nI 9) hx hb dX1_checks_52 (by decide) ?_
  refine lv_bipush (v := nI 36) hx hb dX1_checks_54 (by decide) ?_
  refine z_iast hx hb hK hP hD hS 0 0 rfl rfl (by omega) (by omega) dX1_checks_56 (fun H locs hP hD hS => ?_)
  generalize et9 : upd t8 9 (nI 36) = t9 at hP hD
  have hP : va_P D zCl [(T, .inl (G 0, 10, .inl t9))] H := hP
  have hD : va_D A [(T, .inl (G 0, 10, .inl t9))] := hD
  refine lv_astore_n (lv' := [(1, .ref T), (0, .int (nI k))]) hx hb dX1_checks_57 rfl hl (by decide) rfl (fun ls hl => ?_)
  refine lv_aload_n hx hb dX1_checks_58 rfl (lv_at hl 0 rfl) ?_
  refine lv_iload_n hx hb dX1_checks_59 rfl (lv_at hl 1 rfl) ?_
  have ht9 : t9 k = nI (zch k) := by
    subst et0 et1 et2 et3 et4 et5 et6 et7 et8 et9
    exact (show ∀ k, k < 10 → _ = nI (zch k) by decide +kernel) k hk
  refine z_iald (v := nI (zch k)) hx hb hK hP 0 0 rfl rfl (by omega) (by omega) ht9 dX1_checks_60 ?_
  have hP := hP.sub (ws' := []) [] rfl
  have hD := hD.sub (ws' := []) [] (by decide) rfl
  exact z_iret hx hb hr (rfl) hlocks () (rfl) hP hD hS dX1_checks_61
set_option maxHeartbeats 4000000 in
set_option maxRecDepth 100000 in
theorem m_X1_letter (l : Launch) (D : va_G) (G : Nat → Nat) {x L S : Nat} {a : Nat → Int32} (p0 p1 : Int32) : zMet l yX1_letter cX1_letter 3 (Option.none : Option Jvm.ClassFile.FieldType) ({ frames := 0, cells := 0, slots := 0, locals := 0 } : Room) D G [.ref x, .int p0, .int p1] [(x, .inr (1, [.ref L, .ref S])), (L, .inl (G 0, 62, .inl a))] (zQv D (fun (_ : Unit) => True) (fun _ => [(x, .inr (1, [.ref L, .ref S])), (L, .inl (G 0, 62, .inl (upd a (zix p0 62) (nI (zlo p1)))))])) 0 0 := by
  refine z_met (by decide) (Nat.le_of_ble_eq_true rfl) ?_
  intro p e s m below meth c A ls hx hb hr hml hown hlocks hin hts hK hP hD hS hA hG hl
  have hD : va_D A [(x, .inr (1, [.ref L, .ref S])), (L, .inl (G 0, 62, .inl a))] := hD
  have hown : s.vm.findClass RX1 = some m.cls := hown
  have hP : va_P D zCl [(x, .inr (1, [.ref L, .ref S])), (L, .inl (G 0, 62, .inl a))] s.heap := hP
  have hl : lv_has ls 3 [(0, .ref x), (1, .int p0), (2, .int p1)] := hl
  have hi := zix_lt p0 (n := 62) (by decide)
  have hv := zlo_lt p1
  refine lv_aload_n hx hb dX1_letter_0 rfl (lv_at hl 0 rfl) ?_
  refine va_get (D := D) (ci := 1) (v := .ref L) (C := RX1) (T := TX1) (N := 2) hx hb hts in_X1 hown hK hP 0 rfl rfl 0 (by decide) (hts _ q543) (fun _ h9 => h9) rfl dX1_letter_1 ?_
  refine lv_iload_n hx hb dX1_letter_4 rfl (lv_at hl 1 rfl) ?_
  refine lv_ldc (v := 2147483647) hx hb hown (hts _ q554) dX1_letter_5 ?_
  refine z_iandK (M := 2147483647) hx hb 31 (by decide) dX1_letter_7 ?_
  refine lv_bipush (v := nI 62) hx hb dX1_letter_8 (by decide) ?_
  refine z_irem hx hb (by omega) (by omega) (by omega) dX1_letter_10 ?_
  rw [show (.int (nI ((p0.toBitVec.toNat % 2 ^ 31) % 62)) : Value) = .int (nI (zix p0 62)) from rfl]
  refine lv_iload_n hx hb dX1_letter_11 rfl (lv_at hl 2 rfl) ?_
  refine lv_sipush (v := nI 255) hx hb dX1_letter_12 (by decide) ?_
  refine z_iandK (M := (nI 255)) hx hb 8 (by decide) dX1_letter_15 ?_
  rw [show (.int (nI (p1.toBitVec.toNat % 2 ^ 8)) : Value) = .int (nI (zlo p1)) from rfl]
  refine z_iast hx hb hK hP hD hS 1 0 rfl rfl (by omega) (by omega) dX1_letter_16 (fun H locs hP hD hS => ?_)
  have hP : va_P D zCl [(x, .inr (1, [.ref L, .ref S])), (L, .inl (G 0, 62, .inl (upd a (zix p0 62) (nI (zlo p1)))))] H := hP
  have hD : va_D A [(x, .inr (1, [.ref L, .ref S])), (L, .inl (G 0, 62, .inl (upd a (zix p0 62) (nI (zlo p1)))))] := hD
  have hP := hP.sub (ws' := [(x, .inr (1, [.ref L, .ref S])), (L, .inl (G 0, 62, .inl (upd a (zix p0 62) (nI (zlo p1)))))]) [0, 1] rfl
  have hD := hD.sub (ws' := [(x, .inr (1, [.ref L, .ref S])), (L, .inl (G 0, 62, .inl (upd a (zix p0 62) (nI (zlo p1)))))]) [0, 1] (by decide) rfl
  exact z_vret hx hb hr hlocks () (trivial) hP hD hS dX1_letter_17
set_option maxHeartbeats 4000000 in
set_option maxRecDepth 100000 in
theorem m_X1_fill (l : Launch) (D : va_G) (G : Nat → Nat) {x L S : Nat} {a : Nat → Int32} (p0 p1 : Int32) : zMet l yX1_fill cX1_fill 4 (Option.none : Option Jvm.ClassFile.FieldType) ({ frames := 0, cells := 0, slots := 0, locals := 0 } : Room) D G [.ref x, .int p0, .int p1] [(x, .inr (1, [.ref L, .ref S])), (L, .inl (G 0, 62, .inl a))] (zQv D (fun (f1 : Nat → Int32) => ∀ j, j < 62 → f1 j = nI (zfl p0 p1 j)) (fun f1 => [(x, .inr (1, [.ref L, .ref S])), (L, .inl (G 0, 62, .inl f1))])) 0 0 := by
  refine z_met (by decide) (Nat.le_of_ble_eq_true rfl) ?_
  intro p e s m below meth c A ls hx hb hr hml hown hlocks hin hts hK hP hD hS hA hG hl
  have hD : va_D A [(x, .inr (1, [.ref L, .ref S])), (L, .inl (G 0, 62, .inl a))] := hD
  have hown : s.vm.findClass RX1 = some m.cls := hown
  have hP : va_P D zCl [(x, .inr (1, [.ref L, .ref S])), (L, .inl (G 0, 62, .inl a))] s.heap := hP
  have hl : lv_has ls 4 [(0, .ref x), (1, .int p0), (2, .int p1)] := hl
  refine lv_iconst (v := nI 0) hx hb dX1_fill_0 (by decide) ?_
  refine lv_istore_n (lv' := [(3, .int (nI 0)), (0, .ref x), (1, .int p0), (2, .int p1)]) hx hb dX1_fill_1 rfl hl (by decide) rfl (fun ls hl => ?_)
  have hl := lv_sub (l' := [(3, .int (nI 0)), (0, .ref x), (1, .int p0), (2, .int p1)]) hl [0, 1, 2, 3] rfl
  refine z_loop (cf := fun k9 => 0) (sf := fun k9 => 0) (I := fun k9 H locs ls => ∃ (i : Nat) (f1 : Nat → Int32), (i + k9 = 62) ∧ (∀ j, j < i → f1 j = nI (zfl p0 p1 j)) ∧ va_P D zCl [(x, .inr (1, [.ref L, .ref S])), (L, .inl (G 0, 62, .inl f1))] H ∧ va_D A [(x, .inr (1, [.ref L, .ref S])), (L, .inl (G 0, 62, .inl f1))] ∧ va_S A s.heap H locs ∧ lv_has ls 4 [(3, .int (nI i)), (0, .ref x), (1, .int p0), (2, .int p1)]) (N := 62) ⟨0, a, by omega, (fun j hj => by omega), hP, hD, hS, hl⟩ ?_ ?_
  · intro H locs ls hI
    obtain ⟨i, f1, hi, hf, hP, hD, hS, hl⟩ := hI
    obtain rfl : i = 62 := by omega
    refine lv_iload_n hx hb dX1_fill_2 rfl (lv_at hl 0 rfl) ?_
    refine lv_bipush (v := nI 62) hx hb dX1_fill_3 (by decide) ?_
    refine lv_icmp_ge (tgt := 29) hx hb dX1_fill_5 (by decide) (fun _ => ?_) (fun c9 => absurd (nI_le (Nat.le_refl _) (by omega)) c9)
    have hP := hP.sub (ws' := [(x, .inr (1, [.ref L, .ref S])), (L, .inl (G 0, 62, .inl f1))]) [0, 1] rfl
    have hD := hD.sub (ws' := [(x, .inr (1, [.ref L, .ref S])), (L, .inl (G 0, 62, .inl f1))]) [0, 1] (by decide) rfl
    exact z_vret hx hb hr hlocks f1 (hf) hP hD hS dX1_fill_29
  · intro k9 ih H locs ls hI
    obtain ⟨i, f1, hi, hf, hP, hD, hS, hl⟩ := hI
    refine lv_iload_n hx hb dX1_fill_2 rfl (lv_at hl 0 rfl) ?_
    refine lv_bipush (v := nI 62) hx hb dX1_fill_3 (by decide) ?_
    refine lv_icmp_ge (tgt := 29) hx hb dX1_fill_5 (by decide) (fun c9 => absurd c9 (nI_ge (by omega) (by omega))) (fun _ => ?_)
    have hv := zlo_lt (p0 + p1 * nI i)
    refine lv_aload_n hx hb dX1_fill_8 rfl (lv_at hl 1 rfl) ?_
    refine va_get (D := D) (ci := 1) (v := .ref L) (C := RX1) (T := TX1) (N := 2) hx hb hts in_X1 hown hK hP 0 rfl rfl 0 (by decide) (hts _ q543) (fun _ h9 => h9) rfl dX1_fill_9 ?_
    refine lv_iload_n hx hb dX1_fill_12 rfl (lv_at hl 0 rfl) ?_
    refine lv_iload_n hx hb dX1_fill_13 rfl (lv_at hl 2 rfl) ?_
    refine lv_iload_n hx hb dX1_fill_14 rfl (lv_at hl 3 rfl) ?_
    refine lv_iload_n hx hb dX1_fill_15 rfl (lv_at hl 0 rfl) ?_
    refine lv_imul hx hb dX1_fill_16 ?_
    refine lv_iadd hx hb dX1_fill_17 ?_
    refine lv_sipush (v := nI 255) hx hb dX1_fill_18 (by decide) ?_
    refine z_iandK (M := (nI 255)) hx hb 8 (by decide) dX1_fill_21 ?_
    rw [show (.int (nI ((p0 + (p1 * (nI i))).toBitVec.toNat % 2 ^ 8)) : Value) = .int (nI (zfl p0 p1 i)) from rfl]
    refine z_iast hx hb hK hP hD hS 1 0 rfl rfl (by omega) (by omega) dX1_fill_22 (fun H locs hP hD hS => ?_)
    generalize ee : upd f1 i (nI (zfl p0 p1 i)) = f2 at hP hD
    have hP : va_P D zCl [(x, .inr (1, [.ref L, .ref S])), (L, .inl (G 0, 62, .inl f2))] H := hP
    have hD : va_D A [(x, .inr (1, [.ref L, .ref S])), (L, .inl (G 0, 62, .inl f2))] := hD
    refine lv_iinc (v := (nI (i + 1))) (lv' := [(3, .int (nI (i + 1))), (0, .ref x), (1, .int p0), (2, .int p1)]) hx hb dX1_fill_23 hl (k := 0) rfl (nI_add i 1) (by decide) rfl (fun ls hl => ?_)
    refine lv_goto (tgt := 2) hx hb dX1_fill_26 (by decide) ?_
    refine ih H locs ls ⟨i + 1, f2, by omega, ?_, hP, hD, hS, lv_sub hl [0, 1, 2, 3] rfl⟩
    rw [← ee]
    exact z_upd_lt (P := fun j x => x = nI (zfl p0 p1 j)) hf rfl
set_option maxHeartbeats 4000000 in
set_option maxRecDepth 100000 in
/-- product -/
theorem g_X1_product (l : Launch) (D : va_G) (G : Nat → Nat) {a b : Nat} (ha : a < 256) (hb8 : b < 256) : zGet l yX1_product cX1_product 4 (Option.some Jvm.ClassFile.FieldType.int) ({ frames := 0, cells := 0, slots := 0, locals := 0 } : Room) D G [.int (nI a), .int (nI b)] [] (.int (nI (zp a b))) := by
  refine z_gmet (by decide) (Nat.le_of_ble_eq_true rfl) ?_
  intro p e s m below meth c ls hx hb hr hml hown hlocks hts hK hP hS hG hl
  have hown : s.vm.findClass RX1 = some m.cls := hown
  have hP : va_P D zCl [] s.heap := hP
  have hl : lv_has ls 4 [(0, .int (nI a)), (1, .int (nI b))] := hl
  refine lv_iconst (v := nI 0) hx hb dX1_product_0 (by decide) ?_
  refine lv_istore_n (lv' := [(2, .int (nI 0)), (0, .int (nI a)), (1, .int (nI b))]) hx hb dX1_product_1 rfl hl (by decide) rfl (fun ls hl => ?_)
  refine lv_bipush (v := nI 7) hx hb dX1_product_2 (by decide) ?_
  refine lv_istore_n (lv' := [(3, .int (nI 7)), (2, .int (nI 0)), (0, .int (nI a)), (1, .int (nI b))]) hx hb dX1_product_4 rfl hl (by decide) rfl (fun ls hl => ?_)
  have hl : lv_has ls 4 [(3, .int (zbit 0)), (2, .int (nI (zpr a b 0))), (0, .int (nI a)), (1, .int (nI b))] := lv_sub hl [0, 1, 2, 3] rfl
  refine z_loop (cf := fun k9 => 0) (sf := fun k9 => 0) (I := fun k9 H locs ls => H = s.heap ∧ locs = [] ∧ ∃ (j : Nat), (j + k9 = 8) ∧ lv_has ls 4 [(3, .int (zbit j)), (2, .int (nI (zpr a b j))), (0, .int (nI a)), (1, .int (nI b))]) (N := 8) ⟨rfl, rfl, 0, by omega, hl⟩ ?_ ?_
  · intro H locs ls hI
    obtain ⟨rfl, rfl, j, hk, hl⟩ := hI
    obtain rfl : j = 8 := by omega
    refine lv_iload_n hx hb dX1_product_5 rfl (lv_at hl 0 rfl) ?_
    refine lv_if_lt (tgt := 45) hx hb dX1_product_6 (by decide) (fun _ => ?_) (fun c9 => absurd (show zbit 8 < 0 by decide) c9)
    refine lv_iload_n hx hb dX1_product_45 rfl (lv_at hl 1 rfl) ?_
    exact z_gret hx hb hr (rfl) hlocks dX1_product_46
  · intro k9 ih H locs ls hI
    obtain ⟨rfl, rfl, j, hk, hl⟩ := hI
    have hj : j < 8 := by omega
    have hs := zpr_lt ha b j
    have hl : lv_has ls 4 [(3, .int (nI (7 - j))), (2, .int (nI (zpr a b j))), (0, .int (nI a)), (1, .int (nI b))] := by
      rw [show zbit j = nI (7 - j) from if_pos hj] at hl; exact hl
    refine lv_iload_n hx hb dX1_product_5 rfl (lv_at hl 0 rfl) ?_
    refine lv_if_lt (tgt := 45) hx hb dX1_product_6 (by decide) (fun c9 => absurd c9 (nI_pos (by omega))) (fun _ => ?_)
    refine lv_iload_n hx hb dX1_product_9 rfl (lv_at hl 1 rfl) ?_
    refine lv_iconst (v := nI 1) hx hb dX1_product_10 (by decide) ?_
    refine z_ishl hx hb (by omega) (by omega) dX1_product_11 ?_
    rw [show nI (zpr a b j * 2 ^ 1) = nI (2 * zpr a b j) from congrArg nI (by omega)]
    refine lv_istore_n (lv' := [(2, .int (nI (2 * zpr a b j))), (3, .int (nI (7 - j))), (0, .int (nI a)), (1, .int (nI b))]) hx hb dX1_product_12 rfl hl (by decide) rfl (fun ls hl => ?_)
    refine lv_iload_n hx hb dX1_product_13 rfl (lv_at hl 0 rfl) ?_
    refine lv_sipush (v := nI 255) hx hb dX1_product_14 (by decide) ?_
    refine lv_icmp_le (tgt := 26) hx hb dX1_product_17 (by decide) (fun c1 => ?_) (fun c1 => ?_)
    · have c1 : ¬ 255 < 2 * zpr a b j := fun h9 => nI_ge h9 (by omega) c1
      rw [show 2 * zpr a b j = zpa (zpr a b j) from (if_neg c1).symm] at hl
      have h2 := zpa_lt hs
      refine lv_iload_n hx hb dX1_product_26 rfl (lv_at hl 3 rfl) ?_
      refine lv_iload_n hx hb dX1_product_27 rfl (lv_at hl 1 rfl) ?_
      have hb2 : b < 2 ^ 31 := by omega
      have hb3 : b / 2 ^ (7 - j) < 2 ^ 32 := Nat.lt_of_le_of_lt (Nat.div_le_self _ _) (by omega)
      refine z_ishr hx hb (by omega) (by omega) dX1_product_28 ?_
      refine lv_iconst (v := nI 1) hx hb dX1_product_29 (by decide) ?_
      refine z_iandN (M := (nI 1)) hx hb (by omega) 1 (by decide) dX1_product_30 ?_
      rw [show nI ((b / 2 ^ (7 - j)) % 2 ^ 1) = nI (b / 2 ^ (7 - j) % 2) from congrArg nI (by rw [Nat.pow_one])]
      refine lv_iconst (v := nI 1) hx hb dX1_product_31 (by decide) ?_
      refine lv_icmp_ne (tgt := 39) hx hb dX1_product_32 (by decide) (fun c2 => ?_) (fun c2 => ?_)
      · have c2 : ¬ b / 2 ^ (7 - j) % 2 = 1 := fun h9 => c2 (by rw [h9])
        refine lv_iinc (v := (zbit (j + 1))) (lv' := [(3, .int (zbit (j + 1))), (2, .int (nI (zpa (zpr a b j)))), (0, .int (nI a)), (1, .int (nI b))]) hx hb dX1_product_39 hl (k := 1) rfl (zbit_s j hj) (by decide) rfl (fun ls hl => ?_)
        refine lv_goto (tgt := 5) hx hb dX1_product_42 (by decide) ?_
        rw [show zpa (zpr a b j) = zpr a b (j + 1) from (if_neg c2).symm] at hl
        refine ih _ _ ls ⟨rfl, rfl, j + 1, by omega, lv_sub hl [0, 1, 2, 3] rfl⟩
      · have c2 : b / 2 ^ (7 - j) % 2 = 1 := (nI_eq (by omega) (by decide)).mp c2
        refine lv_iload_n hx hb dX1_product_35 rfl (lv_at hl 0 rfl) ?_
        refine lv_iload_n hx hb dX1_product_36 rfl (lv_at hl 2 rfl) ?_
        refine z_ixor hx hb dX1_product_37 ?_
        refine lv_istore_n (lv' := [(2, .int (nI (zpa (zpr a b j) ^^^ a))), (3, .int (nI (7 - j))), (0, .int (nI a)), (1, .int (nI b))]) hx hb dX1_product_38 rfl hl (by decide) rfl (fun ls hl => ?_)
        refine lv_iinc (v := (zbit (j + 1))) (lv' := [(3, .int (zbit (j + 1))), (2, .int (nI (zpa (zpr a b j) ^^^ a))), (0, .int (nI a)), (1, .int (nI b))]) hx hb dX1_product_39 hl (k := 1) rfl (zbit_s j hj) (by decide) rfl (fun ls hl => ?_)
        refine lv_goto (tgt := 5) hx hb dX1_product_42 (by decide) ?_
        rw [show zpa (zpr a b j) ^^^ a = zpr a b (j + 1) from (if_pos c2).symm] at hl
        refine ih _ _ ls ⟨rfl, rfl, j + 1, by omega, lv_sub hl [0, 1, 2, 3] rfl⟩
    · have c1 : 255 < 2 * zpr a b j := by
        rcases Nat.lt_or_ge 255 (2 * zpr a b j) with h9 | h9
        · exact h9
        · exact absurd (nI_le h9 (by omega)) c1
      refine lv_iload_n hx hb dX1_product_20 rfl (lv_at hl 0 rfl) ?_
      refine lv_sipush (v := nI 301) hx hb dX1_product_21 (by decide) ?_
      refine z_ixor hx hb dX1_product_24 ?_
      refine lv_istore_n (lv' := [(2, .int (nI ((2 * zpr a b j) ^^^ 301))), (3, .int (nI (7 - j))), (0, .int (nI a)), (1, .int (nI b))]) hx hb dX1_product_25 rfl hl (by decide) rfl (fun ls hl => ?_)
      rw [show (2 * zpr a b j) ^^^ 301 = zpa (zpr a b j) from (if_pos c1).symm] at hl
      have h2 := zpa_lt hs
      refine lv_iload_n hx hb dX1_product_26 rfl (lv_at hl 3 rfl) ?_
      refine lv_iload_n hx hb dX1_product_27 rfl (lv_at hl 1 rfl) ?_
      have hb2 : b < 2 ^ 31 := by omega
      have hb3 : b / 2 ^ (7 - j) < 2 ^ 32 := Nat.lt_of_le_of_lt (Nat.div_le_self _ _) (by omega)
      refine z_ishr hx hb (by omega) (by omega) dX1_product_28 ?_
      refine lv_iconst (v := nI 1) hx hb dX1_product_29 (by decide) ?_
      refine z_iandN (M := (nI 1)) hx hb (by omega) 1 (by decide) dX1_product_30 ?_
      rw [show nI ((b / 2 ^ (7 - j)) % 2 ^ 1) = nI (b / 2 ^ (7 - j) % 2) from congrArg nI (by rw [Nat.pow_one])]
      refine lv_iconst (v := nI 1) hx hb dX1_product_31 (by decide) ?_
      refine lv_icmp_ne (tgt := 39) hx hb dX1_product_32 (by decide) (fun c2 => ?_) (fun c2 => ?_)
      · have c2 : ¬ b / 2 ^ (7 - j) % 2 = 1 := fun h9 => c2 (by rw [h9])
        refine lv_iinc (v := (zbit (j + 1))) (lv' := [(3, .int (zbit (j + 1))), (2, .int (nI (zpa (zpr a b j)))), (0, .int (nI a)), (1, .int (nI b))]) hx hb dX1_product_39 hl (k := 1) rfl (zbit_s j hj) (by decide) rfl (fun ls hl => ?_)
        refine lv_goto (tgt := 5) hx hb dX1_product_42 (by decide) ?_
        rw [show zpa (zpr a b j) = zpr a b (j + 1) from (if_neg c2).symm] at hl
        refine ih _ _ ls ⟨rfl, rfl, j + 1, by omega, lv_sub hl [0, 1, 2, 3] rfl⟩
      · have c2 : b / 2 ^ (7 - j) % 2 = 1 := (nI_eq (by omega) (by decide)).mp c2
        refine lv_iload_n hx hb dX1_product_35 rfl (lv_at hl 0 rfl) ?_
        refine lv_iload_n hx hb dX1_product_36 rfl (lv_at hl 2 rfl) ?_
        refine z_ixor hx hb dX1_product_37 ?_
        refine lv_istore_n (lv' := [(2, .int (nI (zpa (zpr a b j) ^^^ a))), (3, .int (nI (7 - j))), (0, .int (nI a)), (1, .int (nI b))]) hx hb dX1_product_38 rfl hl (by decide) rfl (fun ls hl => ?_)
        refine lv_iinc (v := (zbit (j + 1))) (lv' := [(3, .int (zbit (j + 1))), (2, .int (nI (zpa (zpr a b j) ^^^ a))), (0, .int (nI a)), (1, .int (nI b))]) hx hb dX1_product_39 hl (k := 1) rfl (zbit_s j hj) (by decide) rfl (fun ls hl => ?_)
        refine lv_goto (tgt := 5) hx hb dX1_product_42 (by decide) ?_
        rw [show zpa (zpr a b j) ^^^ a = zpr a b (j + 1) from (if_pos c2).symm] at hl
        refine ih _ _ ls ⟨rfl, rfl, j + 1, by omega, lv_sub hl [0, 1, 2, 3] rfl⟩
set_option maxHeartbeats 4000000 in
set_option maxRecDepth 100000 in
/-- maker -/
theorem m_X1_maker (l : Launch) (D : va_G) (G : Nat → Nat) {C : Nat} (hC : C ≤ 36) : zMet l yX1_maker cX1_maker 6 (Option.some (Jvm.ClassFile.FieldType.array Jvm.ClassFile.FieldType.int)) ({ frames := 1, cells := 37, slots := 1369, locals := 23 } : Room) D G [.int (nI C)] [] (zQr D (fun (g : Nat → Int32) => ∀ j, j < C + 1 → g j = nI (zmk C j)) (fun g q => [(q, .inl (G 0, C + 1, .inl g))])) 37 1369 := by
  refine z_met (by decide) (Nat.le_of_ble_eq_true rfl) ?_
  intro p e s m below meth c A ls hx hb hr hml hown hlocks hin hts hK hP hD hS hA hG hl
  have hD : va_D A [] := hD
  have hown : s.vm.findClass RX1 = some m.cls := hown
  have hP : va_P D zCl [] s.heap := hP
  have hl : lv_has ls 6 [(0, .int (nI C))] := hl
  refine lv_iconst (v := nI 1) hx hb dX1_maker_0 (by decide) ?_
  refine z_newi hx hb (hts _ q531) hK hP hD hS hA (by omega) (Nat.le_of_ble_eq_true rfl) (Nat.le_of_ble_eq_true rfl) dX1_maker_1 (fun M0 H hP hD hS => ?_)
  have hP : va_P D zCl [(M0, .inl (G 0, 1, .inl (fun _ => nI 0)))] H := hP
  have hD : va_D A [(M0, .inl (G 0, 1, .inl (fun _ => nI 0)))] := hD
  refine W.widen (k := 1) (n := 1) (Nat.le_of_ble_eq_true rfl) (Nat.le_of_ble_eq_true rfl) ?_
  refine lv_dup hx hb dX1_maker_3 rfl ?_
  refine lv_iconst (v := nI 0) hx hb dX1_maker_4 (by decide) ?_
  refine lv_iconst (v := nI 1) hx hb dX1_maker_5 (by decide) ?_
  refine z_iast hx hb hK hP hD hS 0 0 rfl rfl (by omega) (by omega) dX1_maker_6 (fun H locs hP hD hS => ?_)
  generalize eg0 : upd (fun _ => nI 0) 0 (nI 1) = g0 at hP hD
  have hP : va_P D zCl [(M0, .inl (G 0, 1, .inl g0))] H := hP
  have hD : va_D A [(M0, .inl (G 0, 1, .inl g0))] := hD
  refine lv_astore_n (lv' := [(1, .ref M0), (0, .int (nI C))]) hx hb dX1_maker_7 rfl hl (by decide) rfl (fun ls hl => ?_)
  refine lv_iconst (v := nI 1) hx hb dX1_maker_8 (by decide) ?_
  refine lv_istore_n (lv' := [(2, .int (nI 1)), (1, .ref M0), (0, .int (nI C))]) hx hb dX1_maker_9 rfl hl (by decide) rfl (fun ls hl => ?_)
  refine lv_iconst (v := nI 0) hx hb dX1_maker_10 (by decide) ?_
  refine lv_istore_n (lv' := [(3, .int (nI 0)), (2, .int (nI 1)), (1, .ref M0), (0, .int (nI C))]) hx hb dX1_maker_11 rfl hl (by decide) rfl (fun ls hl => ?_)
  have hl := lv_sub (l' := [(3, .int (nI 0)), (2, .int (nI 1)), (1, .ref M0), (0, .int (nI C))]) hl [0, 1, 2, 3] rfl
  refine W.widen (k := 1 + (C - C)) (n := 1 + (C - C) * 38) (by omega) (by omega) ?_
  refine z_loop (cf := fun k9 => 1 + (C - k9)) (sf := fun k9 => 1 + (C - k9) * 38) (I := fun k9 H locs ls => ∃ (n : Nat) (q : Nat) (g1 : Nat → Int32), (n + k9 = C) ∧ (∀ j, j < n + 1 → g1 j = nI (zmk n j)) ∧ va_P D zCl [(q, .inl (G 0, n + 1, .inl g1))] H ∧ va_D A [(q, .inl (G 0, n + 1, .inl g1))] ∧ va_S A s.heap H locs ∧ lv_has ls 6 [(3, .int (nI n)), (2, .int (nI (zrt n))), (1, .ref q), (0, .int (nI C))]) (N := C) ⟨0, M0, g0, by omega, (fun j hj => by obtain rfl : j = 0 := (by omega); rw [← eg0, pk_us]; decide), hP, hD, hS, hl⟩ ?_ ?_
  · intro H locs ls hI
    obtain ⟨n, q, g1, hn0, hg, hP, hD, hS, hl⟩ := hI
    obtain rfl : n = C := by omega
    refine lv_iload_n hx hb dX1_maker_12 rfl (lv_at hl 0 rfl) ?_
    refine lv_iload_n hx hb dX1_maker_13 rfl (lv_at hl 3 rfl) ?_
    refine lv_icmp_ge (tgt := 86) hx hb dX1_maker_14 (by decide) (fun _ => ?_) (fun c9 => absurd (nI_le (Nat.le_refl _) (by omega)) c9)
    refine lv_aload_n hx hb dX1_maker_86 rfl (lv_at hl 2 rfl) ?_
    have hP := hP.sub (ws' := [(q, .inl (G 0, n + 1, .inl g1))]) [0] rfl
    have hD := hD.sub (ws' := [(q, .inl (G 0, n + 1, .inl g1))]) [0] (by decide) rfl
    refine W.widen (k := 37) (n := 1369) (show 1 + (n - 0) ≤ 37 by omega) (show 1 + (n - 0) * 38 ≤ 1369 by omega) ?_
    exact z_aret hx hb hr (Or.inr ⟨_, rfl⟩) hlocks g1 (hg) hP hD hS dX1_maker_87
  · intro k9 ih H locs ls hI
    obtain ⟨n, q, g1, hn0, hg, hP, hD, hS, hl⟩ := hI
    have hn : n < 36 := by omega
    have hc9 : 1 + (C - (k9 + 1)) + 1 ≤ 37 := by omega
    have hs9 : 1 + (C - (k9 + 1)) * 38 + (n + 1 + 1) ≤ 1369 := by omega
    have hc8 : 1 + (C - (k9 + 1)) + 0 ≤ 37 := by omega
    have hs8 : 1 + (C - (k9 + 1)) * 38 + 0 ≤ 1369 := by omega
    refine lv_iload_n hx hb dX1_maker_12 rfl (lv_at hl 0 rfl) ?_
    refine lv_iload_n hx hb dX1_maker_13 rfl (lv_at hl 3 rfl) ?_
    refine lv_icmp_ge (tgt := 86) hx hb dX1_maker_14 (by decide) (fun c9 => absurd c9 (nI_ge (by omega) (by omega))) (fun _ => ?_)
    refine lv_iload_n hx hb dX1_maker_17 rfl (lv_at hl 1 rfl) ?_
    refine lv_iconst (v := nI 2) hx hb dX1_maker_18 (by decide) ?_
    refine z_getc (va_runS (As := [.int (nI (zrt n)), .int (nI 2)]) (rest := []) ⟨hx, hb, hml, hown, hts⟩ (g_X1_product l D G (zrt_lt n) (by decide)) (va_cwS 2 hts (lw_S q572 q573 q3 q574) rfl rfl rfl (by decide +kernel) ⟨Nat.le_of_ble_eq_true rfl, Nat.le_of_ble_eq_true rfl⟩) (z_preSg hK hP hG hS [] rfl) rfl rfl hl.1 rfl (lv_room (Nat.le_of_ble_eq_true rfl)) dX1_maker_19 ⟨hc8, hs8⟩) ?_
    rw [show nI (zp (zrt n) 2) = nI (zrt (n + 1)) from congrArg nI ((zrt_s hn).symm)]
    refine lv_istore_n (lv' := [(2, .int (nI (zrt (n + 1)))), (3, .int (nI n)), (1, .ref q), (0, .int (nI C))]) hx hb dX1_maker_22 rfl hl (by decide) rfl (fun ls hl => ?_)
    refine lv_aload_n hx hb dX1_maker_23 rfl (lv_at hl 2 rfl) ?_
    refine va_alen (v := nI (n + 1)) hx hb hK hP 0 0 rfl rfl rfl dX1_maker_24 ?_
    refine lv_iconst (v := nI 1) hx hb dX1_maker_25 (by decide) ?_
    refine z_iadd hx hb dX1_maker_26 ?_
    refine z_newi hx hb (hts _ q531) hK hP hD hS hA (by omega) hc9 hs9 dX1_maker_27 (fun q2 H hP hD hS => ?_)
    have hP : va_P D zCl [(q, .inl (G 0, n + 1, .inl g1)), (q2, .inl (G 0, n + 1 + 1, .inl (fun _ => nI 0)))] H := hP
    have hD : va_D A [(q, .inl (G 0, n + 1, .inl g1)), (q2, .inl (G 0, n + 1 + 1, .inl (fun _ => nI 0)))] := hD
    refine W.widen (k := 1 + (C - k9)) (n := 1 + (C - k9) * 38) (show 1 + (C - (k9 + 1)) + 1 ≤ 1 + (C - k9) by omega) (show 1 + (C - (k9 + 1)) * 38 + (n + 1 + 1) ≤ 1 + (C - k9) * 38 by omega) ?_
    refine lv_astore (lv' := [(4, .ref q2), (2, .int (nI (zrt (n + 1)))), (3, .int (nI n)), (1, .ref q), (0, .int (nI C))]) hx hb dX1_maker_29 hl (by decide) rfl (fun ls hl => ?_)
    refine lv_iconst (v := nI 0) hx hb dX1_maker_31 (by decide) ?_
    refine lv_istore (lv' := [(5, .int (nI 0)), (4, .ref q2), (2, .int (nI (zrt (n + 1)))), (3, .int (nI n)), (1, .ref q), (0, .int (nI C))]) hx hb dX1_maker_32 hl (by decide) rfl (fun ls hl => ?_)
    have hl := lv_sub (l' := [(5, .int (nI 0)), (4, .ref q2), (3, .int (nI n)), (2, .int (nI (zrt (n + 1)))), (1, .ref q), (0, .int (nI C))]) hl [0, 1, 3, 2, 4, 5] rfl
    have hc7 : 1 + (C - k9) + 0 ≤ 37 := by omega
    have hs7 : 1 + (C - k9) * 38 + 0 ≤ 1369 := by omega
    obtain ⟨K9, eK9⟩ : ∃ K9, K9 = C - k9 := ⟨_, rfl⟩
    rw [← eK9] at hc7 hs7 ih ⊢
    refine z_loop (cf := fun k9 => 1 + K9) (sf := fun k9 => 1 + K9 * 38) (I := fun k9 H locs ls => ∃ (i : Nat) (h1 : Nat → Int32), (i + k9 = n + 1) ∧ (∀ j, j < n + 1 + 1 → h1 j = nI (zmp n (zrt (n + 1)) i j)) ∧ va_P D zCl [(q, .inl (G 0, n + 1, .inl g1)), (q2, .inl (G 0, n + 1 + 1, .inl h1))] H ∧ va_D A [(q, .inl (G 0, n + 1, .inl g1)), (q2, .inl (G 0, n + 1 + 1, .inl h1))] ∧ va_S A s.heap H locs ∧ lv_has ls 6 [(5, .int (nI i)), (4, .ref q2), (3, .int (nI n)), (2, .int (nI (zrt (n + 1)))), (1, .ref q), (0, .int (nI C))]) (N := n + 1) ⟨0, fun _ => nI 0, by omega, (fun j hj => by rw [zmp_0]), hP, hD, hS, hl⟩ ?_ ?_
    · intro H locs ls hI
      obtain ⟨i, h1, hi, hh, hP, hD, hS, hl⟩ := hI
      obtain rfl : i = n + 1 := by omega
      refine lv_iload hx hb dX1_maker_34 (lv_at hl 0 rfl) ?_
      refine lv_aload_n hx hb dX1_maker_36 rfl (lv_at hl 4 rfl) ?_
      refine va_alen (v := nI (n + 1)) hx hb hK hP 0 0 rfl rfl rfl dX1_maker_37 ?_
      refine lv_icmp_ge (tgt := 77) hx hb dX1_maker_38 (by decide) (fun _ => ?_) (fun c9 => absurd (nI_le (Nat.le_refl _) (by omega)) c9)
      refine lv_aload hx hb dX1_maker_77 (lv_at hl 1 rfl) ?_
      refine lv_astore_n (lv' := [(1, .ref q2), (5, .int (nI (n + 1))), (4, .ref q2), (3, .int (nI n)), (2, .int (nI (zrt (n + 1)))), (0, .int (nI C))]) hx hb dX1_maker_79 rfl hl (by decide) rfl (fun ls hl => ?_)
      refine lv_iinc (v := (nI (n + 1))) (lv' := [(3, .int (nI (n + 1))), (1, .ref q2), (5, .int (nI (n + 1))), (4, .ref q2), (2, .int (nI (zrt (n + 1)))), (0, .int (nI C))]) hx hb dX1_maker_80 hl (k := 3) rfl (nI_add n 1) (by decide) rfl (fun ls hl => ?_)
      refine lv_goto (tgt := 12) hx hb dX1_maker_83 (by decide) ?_
      have hP := hP.sub (ws' := [(q2, .inl (G 0, n + 1 + 1, .inl h1))]) [1] rfl
      have hD := hD.sub (ws' := [(q2, .inl (G 0, n + 1 + 1, .inl h1))]) [1] (by decide) rfl
      refine ih H locs ls ⟨n + 1, q2, h1, by omega, (fun j hj => ?_), hP, hD, hS, lv_sub hl [0, 4, 1, 5] rfl⟩
      rw [hh j (by omega), zmp_end hn (by omega)]
    · intro k9 ih H locs ls hI
      obtain ⟨i, h1, hi, hh, hP, hD, hS, hl⟩ := hI
      have hi2 : i < n + 1 := by omega
      refine lv_iload hx hb dX1_maker_34 (lv_at hl 0 rfl) ?_
      refine lv_aload_n hx hb dX1_maker_36 rfl (lv_at hl 4 rfl) ?_
      refine va_alen (v := nI (n + 1)) hx hb hK hP 0 0 rfl rfl rfl dX1_maker_37 ?_
      refine lv_icmp_ge (tgt := 77) hx hb dX1_maker_38 (by decide) (fun c9 => absurd c9 (nI_ge (by omega) (by omega))) (fun _ => ?_)
      refine lv_aload hx hb dX1_maker_41 (lv_at hl 1 rfl) ?_
      refine lv_iload hx hb dX1_maker_43 (lv_at hl 0 rfl) ?_
      refine lv_dup2_11 hx hb dX1_maker_45 rfl rfl ?_
      refine z_iald (v := nI (zmp n (zrt (n + 1)) i i)) hx hb hK hP 1 0 rfl rfl (by omega) (by omega) (hh i (by omega)) dX1_maker_46 ?_
      refine lv_aload_n hx hb dX1_maker_47 rfl (lv_at hl 4 rfl) ?_
      refine lv_iload hx hb dX1_maker_48 (lv_at hl 0 rfl) ?_
      refine z_iald (v := nI (zmk n i)) hx hb hK hP 0 0 rfl rfl (by omega) (by omega) (hg i (by omega)) dX1_maker_50 ?_
      refine z_ixor hx hb dX1_maker_51 ?_
      rw [show nI (zmp n (zrt (n + 1)) i i ^^^ zmk n i) = nI (zmp n (zrt (n + 1)) (i + 1) i) from congrArg nI (zmp_at)]
      refine z_iast hx hb hK hP hD hS 1 0 rfl rfl (by omega) (by omega) dX1_maker_52 (fun H locs hP hD hS => ?_)
      generalize eh2 : upd h1 i (nI (zmp n (zrt (n + 1)) (i + 1) i)) = h2 at hP hD
      have hP : va_P D zCl [(q, .inl (G 0, n + 1, .inl g1)), (q2, .inl (G 0, n + 1 + 1, .inl h2))] H := hP
      have hD : va_D A [(q, .inl (G 0, n + 1, .inl g1)), (q2, .inl (G 0, n + 1 + 1, .inl h2))] := hD
      refine lv_aload hx hb dX1_maker_53 (lv_at hl 1 rfl) ?_
      refine lv_iload hx hb dX1_maker_55 (lv_at hl 0 rfl) ?_
      refine lv_iconst (v := nI 1) hx hb dX1_maker_57 (by decide) ?_
      refine z_iadd hx hb dX1_maker_58 ?_
      refine lv_dup2_11 hx hb dX1_maker_59 rfl rfl ?_
      refine z_iald (v := nI (zmp n (zrt (n + 1)) i (i + 1))) hx hb hK hP 1 0 rfl rfl (by omega) (by omega) (by rw [← eh2, pk_un (by omega)]; exact hh (i + 1) (by omega)) dX1_maker_60 ?_
      refine lv_iload_n hx hb dX1_maker_61 rfl (lv_at hl 3 rfl) ?_
      refine lv_aload_n hx hb dX1_maker_62 rfl (lv_at hl 4 rfl) ?_
      refine lv_iload hx hb dX1_maker_63 (lv_at hl 0 rfl) ?_
      refine z_iald (v := nI (zmk n i)) hx hb hK hP 0 0 rfl rfl (by omega) (by omega) (hg i (by omega)) dX1_maker_65 ?_
      refine z_getc (va_runS (As := [.int (nI (zrt (n + 1))), .int (nI (zmk n i))]) (rest := [.int (nI (zmp n (zrt (n + 1)) i (i + 1))), .int (nI (i + 1)), .ref q2]) ⟨hx, hb, hml, hown, hts⟩ (g_X1_product l D G (zrt_lt _) (zmk_lt _ _)) (va_cwS 2 hts (lw_S q572 q573 q3 q574) rfl rfl rfl (by decide +kernel) ⟨Nat.le_of_ble_eq_true rfl, Nat.le_of_ble_eq_true rfl⟩) (z_preSg hK hP hG hS [] rfl) rfl rfl hl.1 rfl (lv_room (Nat.le_of_ble_eq_true rfl)) dX1_maker_66 ⟨hc7, hs7⟩) ?_
      refine z_ixor hx hb dX1_maker_69 ?_
      rw [show nI (zmp n (zrt (n + 1)) i (i + 1) ^^^ zp (zrt (n + 1)) (zmk n i)) = nI (zmp n (zrt (n + 1)) (i + 1) (i + 1)) from congrArg nI (zmp_up)]
      refine z_iast hx hb hK hP hD hS 1 0 rfl rfl (by omega) (by omega) dX1_maker_70 (fun H locs hP hD hS => ?_)
      generalize eh3 : upd h2 (i + 1) (nI (zmp n (zrt (n + 1)) (i + 1) (i + 1))) = h3 at hP hD
      have hP : va_P D zCl [(q, .inl (G 0, n + 1, .inl g1)), (q2, .inl (G 0, n + 1 + 1, .inl h3))] H := hP
      have hD : va_D A [(q, .inl (G 0, n + 1, .inl g1)), (q2, .inl (G 0, n + 1 + 1, .inl h3))] := hD
      refine lv_iinc (v := (nI (i + 1))) (lv' := [(5, .int (nI (i + 1))), (4, .ref q2), (3, .int (nI n)), (2, .int (nI (zrt (n + 1)))), (1, .ref q), (0, .int (nI C))]) hx hb dX1_maker_71 hl (k := 0) rfl (nI_add i 1) (by decide) rfl (fun ls hl => ?_)
      refine lv_goto (tgt := 34) hx hb dX1_maker_74 (by decide) ?_
      refine ih H locs ls ⟨i + 1, h3, by omega, ?_, hP, hD, hS, lv_sub hl [0, 1, 2, 3, 4, 5] rfl⟩
      rw [← eh3]
      refine z_upd_all (P := fun j x => x = nI (zmp n (zrt (n + 1)) (i + 1) j)) (fun j h8 h9 => ?_) rfl
      rw [← eh2]
      by_cases h7 : j = i
      · rw [h7, pk_us]
      · rw [pk_un h7, hh j h8, zmp_ne h7 h9]
end
section
/-! SquareParityModel.write and whole -/
set_option maxHeartbeats 4000000 in
set_option maxRecDepth 100000 in
/-- SquareParityModel.write -/
theorem m_X1_write (l : Launch) (D : va_G) (G : Nat → Nat) {x L S k : Nat} {a : Nat → Int32} {d : Nat → Nat} {p0 : Int32} (ek : zix p0 10 = k) (hk : k < 10) (hd : ∀ i, d i < 256) (ha : zCh d 62 a) : zMet l yX1_write cX1_write 11 (Option.some Jvm.ClassFile.FieldType.int) ({ frames := 2, cells := 41, slots := 1585, locals := 48 } : Room) D G [.ref x, .int p0] [(x, .inr (1, [.ref L, .ref S])), (L, .inl (G 0, 62, .inl a))] (zQi D (fun (r : Int32) (u : Nat × (Nat → Int32)) => r = nI (zroom k + zch k) ∧ ∀ q, q < zroom k + zch k → u.2 q = nI (zw k d q)) (fun u => [(x, .inr (1, [.ref L, .ref u.1])), (L, .inl (G 0, 62, .inl a)), (u.1, .inl (G 0, zroom k + zch k, .inl u.2))])) 41 1585 := by
  refine z_met (by decide) (Nat.le_of_ble_eq_true rfl) ?_
  intro p e s m below meth c A ls hx hb hr hml hown hlocks hin hts hK hP hD hS hA hG hl
  have hD : va_D A [(x, .inr (1, [.ref L, .ref S])), (L, .inl (G 0, 62, .inl a))] := hD
  have hown : s.vm.findClass RX1 = some m.cls := hown
  have hP : va_P D zCl [(x, .inr (1, [.ref L, .ref S])), (L, .inl (G 0, 62, .inl a))] s.heap := hP
  have hl : lv_has ls 11 [(0, .ref x), (1, .int p0)] := hl
  have hro := zroom_in k hk
  have hc := zch_in k hk
  refine lv_iload_n hx hb dX1_write_0 rfl (lv_at hl 1 rfl) ?_
  refine lv_ldc (v := 2147483647) hx hb hown (hts _ q554) dX1_write_1 ?_
  refine z_iandK (M := 2147483647) hx hb 31 (by decide) dX1_write_3 ?_
  refine lv_bipush (v := nI 10) hx hb dX1_write_4 (by decide) ?_
  refine z_irem hx hb (by omega) (by omega) (by omega) dX1_write_6 ?_
  rw [show (.int (nI ((p0.toBitVec.toNat % 2 ^ 31) % 10)) : Value) = .int (nI k) from congrArg (fun z => Value.int (nI z)) ek]
  refine lv_istore_n (lv' := [(2, .int (nI k)), (0, .ref x), (1, .int p0)]) hx hb dX1_write_7 rfl hl (by decide) rfl (fun ls hl => ?_)
  refine lv_iload_n hx hb dX1_write_8 rfl (lv_at hl 0 rfl) ?_
  refine z_calli (wr := [(x, .inr (1, [.ref L, .ref S])), (L, .inl (G 0, 62, .inl a))]) (va_runS (As := [.int (nI k)]) (rest := []) ⟨hx, hb, hml, hown, hts⟩ (m_X1_room l D G hk s.heap.size) (va_cwS 1 hts (lw_S q563 q564 q3 q565) rfl rfl rfl (by decide +kernel) ⟨Nat.le_of_ble_eq_true rfl, Nat.le_of_ble_eq_true rfl⟩) (z_preS hK hP hD hG hS hA [] rfl (by decide)) rfl rfl hl.1 rfl (lv_room (Nat.le_of_ble_eq_true rfl)) dX1_write_9 ⟨Nat.le_of_ble_eq_true rfl, Nat.le_of_ble_eq_true rfl⟩) hP hD hS hA [] [0, 1] rfl rfl (by decide) (by decide) (fun r9 u H locs hw hP hD hS => ?_)
  subst hw
  have hP : va_P D zCl [(x, .inr (1, [.ref L, .ref S])), (L, .inl (G 0, 62, .inl a))] H := hP
  have hD : va_D A [(x, .inr (1, [.ref L, .ref S])), (L, .inl (G 0, 62, .inl a))] := hD
  refine lv_istore_n (lv' := [(3, .int (nI (zroom k))), (2, .int (nI k)), (0, .ref x), (1, .int p0)]) hx hb dX1_write_12 rfl hl (by decide) rfl (fun ls hl => ?_)
  refine lv_iload_n hx hb dX1_write_13 rfl (lv_at hl 1 rfl) ?_
  refine z_calli (wr := [(x, .inr (1, [.ref L, .ref S])), (L, .inl (G 0, 62, .inl a))]) (va_runS (As := [.int (nI k)]) (rest := []) ⟨hx, hb, hml, hown, hts⟩ (m_X1_checks l D G hk H.size) (va_cwS 1 hts (lw_S q566 q567 q3 q568) rfl rfl rfl (by decide +kernel) ⟨Nat.le_of_ble_eq_true rfl, Nat.le_of_ble_eq_true rfl⟩) (z_preS hK hP hD hG hS hA [] rfl (by decide)) rfl rfl hl.1 rfl (lv_room (Nat.le_of_ble_eq_true rfl)) dX1_write_14 ⟨Nat.le_of_ble_eq_true rfl, Nat.le_of_ble_eq_true rfl⟩) hP hD hS hA [] [0, 1] rfl rfl (by decide) (by decide) (fun r9 u H locs hw hP hD hS => ?_)
  subst hw
  have hP : va_P D zCl [(x, .inr (1, [.ref L, .ref S])), (L, .inl (G 0, 62, .inl a))] H := hP
  have hD : va_D A [(x, .inr (1, [.ref L, .ref S])), (L, .inl (G 0, 62, .inl a))] := hD
  refine lv_istore (lv' := [(4, .int (nI (zch k))), (3, .int (nI (zroom k))), (2, .int (nI k)), (0, .ref x), (1, .int p0)]) hx hb dX1_write_17 hl (by decide) rfl (fun ls hl => ?_)
  refine lv_iload hx hb dX1_write_19 (lv_at hl 0 rfl) ?_
  refine W.widen (k := 2) (n := 20) (Nat.le_of_ble_eq_true rfl) (Nat.le_of_ble_eq_true rfl) ?_
  refine z_callr (wr := [(x, .inr (1, [.ref L, .ref S])), (L, .inl (G 0, 62, .inl a))]) (va_runS (As := [.int (nI (zch k))]) (rest := []) ⟨hx, hb, hml, hown, hts⟩ (m_X1_maker l D G (by omega) H.size) (va_cwS 1 hts (lw_S q569 q570 q3 q571) rfl rfl rfl (by decide +kernel) ⟨Nat.le_of_ble_eq_true rfl, Nat.le_of_ble_eq_true rfl⟩) (z_preS hK hP hD hG hS hA [] rfl (by decide)) rfl rfl hl.1 rfl (lv_room (Nat.le_of_ble_eq_true rfl)) dX1_write_21 ⟨Nat.le_of_ble_eq_true rfl, Nat.le_of_ble_eq_true rfl⟩) hP hD hS hA [] [0, 1] rfl rfl (by decide) (by decide) (fun g Mk H locs hw hP hD hS => ?_)
  have hP : va_P D zCl [(x, .inr (1, [.ref L, .ref S])), (L, .inl (G 0, 62, .inl a)), (Mk, .inl (G 0, zch k + 1, .inl g))] H := hP
  have hD : va_D A [(x, .inr (1, [.ref L, .ref S])), (L, .inl (G 0, 62, .inl a)), (Mk, .inl (G 0, zch k + 1, .inl g))] := hD
  have hg : ∀ j, j < zch k + 1 → g j = nI (zmk (zch k) j) := hw
  refine W.widen (k := 39) (n := 1389) (Nat.le_of_ble_eq_true rfl) (Nat.le_of_ble_eq_true rfl) ?_
  refine lv_astore (lv' := [(5, .ref Mk), (4, .int (nI (zch k))), (3, .int (nI (zroom k))), (2, .int (nI k)), (0, .ref x), (1, .int p0)]) hx hb dX1_write_24 hl (by decide) rfl (fun ls hl => ?_)
  refine lv_iload_n hx hb dX1_write_26 rfl (lv_at hl 2 rfl) ?_
  refine lv_iload hx hb dX1_write_27 (lv_at hl 1 rfl) ?_
  refine z_iadd hx hb dX1_write_29 ?_
  refine z_newi hx hb (hts _ q531) hK hP hD hS hA (by omega) (Nat.le_of_ble_eq_true rfl) (show 1389 + (zroom k + zch k) ≤ 1585 by omega) dX1_write_30 (fun Lf H hP hD hS => ?_)
  have hP : va_P D zCl [(x, .inr (1, [.ref L, .ref S])), (L, .inl (G 0, 62, .inl a)), (Mk, .inl (G 0, zch k + 1, .inl g)), (Lf, .inl (G 0, zroom k + zch k, .inl (fun _ => nI 0)))] H := hP
  have hD : va_D A [(x, .inr (1, [.ref L, .ref S])), (L, .inl (G 0, 62, .inl a)), (Mk, .inl (G 0, zch k + 1, .inl g)), (Lf, .inl (G 0, zroom k + zch k, .inl (fun _ => nI 0)))] := hD
  refine W.widen (k := 40) (n := 1487) (by omega) (by omega) ?_
  refine lv_astore (lv' := [(6, .ref Lf), (5, .ref Mk), (4, .int (nI (zch k))), (3, .int (nI (zroom k))), (2, .int (nI k)), (0, .ref x), (1, .int p0)]) hx hb dX1_write_32 hl (by decide) rfl (fun ls hl => ?_)
  refine lv_iload_n hx hb dX1_write_34 rfl (lv_at hl 3 rfl) ?_
  refine lv_iload hx hb dX1_write_35 (lv_at hl 2 rfl) ?_
  refine z_iadd hx hb dX1_write_37 ?_
  refine z_newi hx hb (hts _ q531) hK hP hD hS hA (by omega) (Nat.le_of_ble_eq_true rfl) (show 1487 + (zroom k + zch k) ≤ 1585 by omega) dX1_write_38 (fun Fd H hP hD hS => ?_)
  have hP : va_P D zCl [(x, .inr (1, [.ref L, .ref S])), (L, .inl (G 0, 62, .inl a)), (Mk, .inl (G 0, zch k + 1, .inl g)), (Lf, .inl (G 0, zroom k + zch k, .inl (fun _ => nI 0))), (Fd, .inl (G 0, zroom k + zch k, .inl (fun _ => nI 0)))] H := hP
  have hD : va_D A [(x, .inr (1, [.ref L, .ref S])), (L, .inl (G 0, 62, .inl a)), (Mk, .inl (G 0, zch k + 1, .inl g)), (Lf, .inl (G 0, zroom k + zch k, .inl (fun _ => nI 0))), (Fd, .inl (G 0, zroom k + zch k, .inl (fun _ => nI 0)))] := hD
  refine W.widen (k := 41) (n := 1585) (by omega) (by omega) ?_
  refine lv_astore (lv' := [(7, .ref Fd), (6, .ref Lf), (5, .ref Mk), (4, .int (nI (zch k))), (3, .int (nI (zroom k))), (2, .int (nI k)), (0, .ref x), (1, .int p0)]) hx hb dX1_write_40 hl (by decide) rfl (fun ls hl => ?_)
  refine lv_iconst (v := nI 0) hx hb dX1_write_42 (by decide) ?_
  refine lv_istore (lv' := [(8, .int (nI 0)), (7, .ref Fd), (6, .ref Lf), (5, .ref Mk), (4, .int (nI (zch k))), (3, .int (nI (zroom k))), (2, .int (nI k)), (0, .ref x), (1, .int p0)]) hx hb dX1_write_43 hl (by decide) rfl (fun ls hl => ?_)
  have hl := lv_sub (l' := [(8, .int (nI 0)), (7, .ref Fd), (6, .ref Lf), (5, .ref Mk), (4, .int (nI (zch k))), (3, .int (nI (zroom k))), (0, .ref x)]) hl [0, 1, 2, 3, 4, 5, 7] rfl
  refine z_loop (cf := fun k9 => 41) (sf := fun k9 => 1585) (I := fun k9 H locs ls => ∃ (i : Nat) (lf0 : Nat → Int32) (fd0 : Nat → Int32), (i + k9 = zroom k) ∧ (∀ j, j < zroom k + zch k → lf0 j = nI (if j < i then d j else 0)) ∧ (∀ j, j < i → fd0 j = nI (d j)) ∧ va_P D zCl [(x, .inr (1, [.ref L, .ref S])), (L, .inl (G 0, 62, .inl a)), (Mk, .inl (G 0, zch k + 1, .inl g)), (Lf, .inl (G 0, zroom k + zch k, .inl lf0)), (Fd, .inl (G 0, zroom k + zch k, .inl fd0))] H ∧ va_D A [(x, .inr (1, [.ref L, .ref S])), (L, .inl (G 0, 62, .inl a)), (Mk, .inl (G 0, zch k + 1, .inl g)), (Lf, .inl (G 0, zroom k + zch k, .inl lf0)), (Fd, .inl (G 0, zroom k + zch k, .inl fd0))] ∧ va_S A s.heap H locs ∧ lv_has ls 11 [(8, .int (nI i)), (7, .ref Fd), (6, .ref Lf), (5, .ref Mk), (4, .int (nI (zch k))), (3, .int (nI (zroom k))), (0, .ref x)]) (N := zroom k) ⟨0, fun _ => nI 0, fun _ => nI 0, by omega, (fun j hj => by rw [if_neg (by omega)]), (fun j hj => by omega), hP, hD, hS, hl⟩ ?_ ?_
  · intro H locs ls hI
    obtain ⟨i, lf0, fd0, hi, h1, h2, hP, hD, hS, hl⟩ := hI
    obtain rfl : i = zroom k := by omega
    refine lv_iload hx hb dX1_write_45 (lv_at hl 0 rfl) ?_
    refine lv_iload_n hx hb dX1_write_47 rfl (lv_at hl 5 rfl) ?_
    refine lv_icmp_ge (tgt := 81) hx hb dX1_write_48 (by decide) (fun _ => ?_) (fun c9 => absurd (nI_le (Nat.le_refl _) (by omega)) c9)
    refine lv_iconst (v := nI 0) hx hb dX1_write_81 (by decide) ?_
    refine lv_istore (lv' := [(8, .int (nI 0)), (7, .ref Fd), (6, .ref Lf), (5, .ref Mk), (4, .int (nI (zch k))), (3, .int (nI (zroom k))), (0, .ref x)]) hx hb dX1_write_82 hl (by decide) rfl (fun ls hl => ?_)
    have hl := lv_sub (l' := [(8, .int (nI 0)), (7, .ref Fd), (6, .ref Lf), (5, .ref Mk), (4, .int (nI (zch k))), (3, .int (nI (zroom k))), (0, .ref x)]) hl [0, 1, 2, 3, 4, 5, 6] rfl
    refine z_loop (cf := fun k9 => 41) (sf := fun k9 => 1585) (I := fun k9 H locs ls => ∃ (i : Nat) (lf2 : Nat → Int32), (i + k9 = zroom k) ∧ (∀ q, q < zroom k + zch k → lf2 q = nI (zl (zroom k) (zch k) (zmk (zch k)) d i q)) ∧ va_P D zCl [(x, .inr (1, [.ref L, .ref S])), (L, .inl (G 0, 62, .inl a)), (Mk, .inl (G 0, zch k + 1, .inl g)), (Lf, .inl (G 0, zroom k + zch k, .inl lf2)), (Fd, .inl (G 0, zroom k + zch k, .inl fd0))] H ∧ va_D A [(x, .inr (1, [.ref L, .ref S])), (L, .inl (G 0, 62, .inl a)), (Mk, .inl (G 0, zch k + 1, .inl g)), (Lf, .inl (G 0, zroom k + zch k, .inl lf2)), (Fd, .inl (G 0, zroom k + zch k, .inl fd0))] ∧ va_S A s.heap H locs ∧ lv_has ls 11 [(8, .int (nI i)), (7, .ref Fd), (6, .ref Lf), (5, .ref Mk), (4, .int (nI (zch k))), (3, .int (nI (zroom k))), (0, .ref x)]) (N := zroom k) ⟨0, lf0, by omega, (fun q hq => h1 q hq), hP, hD, hS, hl⟩ ?_ ?_
    · intro H locs ls hI
      obtain ⟨i, lf2, hi, h3, hP, hD, hS, hl⟩ := hI
      obtain rfl : i = zroom k := by omega
      refine lv_iload hx hb dX1_write_84 (lv_at hl 0 rfl) ?_
      refine lv_iload_n hx hb dX1_write_86 rfl (lv_at hl 5 rfl) ?_
      refine lv_icmp_ge (tgt := 140) hx hb dX1_write_87 (by decide) (fun _ => ?_) (fun c9 => absurd (nI_le (Nat.le_refl _) (by omega)) c9)
      refine lv_iload_n hx hb dX1_write_140 rfl (lv_at hl 5 rfl) ?_
      refine lv_istore (lv' := [(8, .int (nI (zroom k))), (7, .ref Fd), (6, .ref Lf), (5, .ref Mk), (4, .int (nI (zch k))), (3, .int (nI (zroom k))), (0, .ref x)]) hx hb dX1_write_141 hl (by decide) rfl (fun ls hl => ?_)
      have hl := lv_sub (l' := [(8, .int (nI (zroom k))), (7, .ref Fd), (6, .ref Lf), (5, .ref Mk), (4, .int (nI (zch k))), (3, .int (nI (zroom k))), (0, .ref x)]) hl [0, 1, 2, 3, 4, 5, 6] rfl
      refine z_loop (cf := fun k9 => 41) (sf := fun k9 => 1585) (I := fun k9 H locs ls => ∃ (i : Nat) (fd2 : Nat → Int32), (i + k9 = zroom k + zch k ∧ zroom k ≤ i) ∧ (∀ q, q < i → fd2 q = nI (zw k d q)) ∧ va_P D zCl [(x, .inr (1, [.ref L, .ref S])), (L, .inl (G 0, 62, .inl a)), (Mk, .inl (G 0, zch k + 1, .inl g)), (Lf, .inl (G 0, zroom k + zch k, .inl lf2)), (Fd, .inl (G 0, zroom k + zch k, .inl fd2))] H ∧ va_D A [(x, .inr (1, [.ref L, .ref S])), (L, .inl (G 0, 62, .inl a)), (Mk, .inl (G 0, zch k + 1, .inl g)), (Lf, .inl (G 0, zroom k + zch k, .inl lf2)), (Fd, .inl (G 0, zroom k + zch k, .inl fd2))] ∧ va_S A s.heap H locs ∧ lv_has ls 11 [(8, .int (nI i)), (7, .ref Fd), (6, .ref Lf), (5, .ref Mk), (4, .int (nI (zch k))), (3, .int (nI (zroom k))), (0, .ref x)]) (N := zch k) ⟨zroom k, fd0, by omega, (fun q hq => by rw [h2 q hq, zw, if_pos hq]), hP, hD, hS, hl⟩ ?_ ?_
      · intro H locs ls hI
        obtain ⟨i, fd2, hi, h5, hP, hD, hS, hl⟩ := hI
        obtain rfl : i = zroom k + zch k := by omega
        refine lv_iload hx hb dX1_write_143 (lv_at hl 0 rfl) ?_
        refine lv_aload hx hb dX1_write_145 (lv_at hl 1 rfl) ?_
        refine va_alen (v := nI (zroom k + zch k)) hx hb hK hP 4 0 rfl rfl rfl dX1_write_147 ?_
        refine lv_icmp_ge (tgt := 167) hx hb dX1_write_148 (by decide) (fun _ => ?_) (fun c9 => absurd (nI_le (Nat.le_refl _) (by omega)) c9)
        refine lv_aload_n hx hb dX1_write_167 rfl (lv_at hl 6 rfl) ?_
        refine lv_aload hx hb dX1_write_168 (lv_at hl 1 rfl) ?_
        refine va_put (D := D) (ci := 1) (v := .ref Fd) (ty := .array .int) (C := RX1) (T := TX1) (N := 2) hx hb hts in_X1 tyX1 tyX1_ok nmX1 hown hK hP hD hS 0 rfl rfl 1 (by decide) (hts _ q544) (fun _ h9 => h9) rfl (by decide +kernel) rfl rfl (Nat.le_of_ble_eq_true rfl) dX1_write_170 (fun H locs hP hD hS => ?_)
        have hP : va_P D zCl [(x, .inr (1, [.ref L, .ref Fd])), (L, .inl (G 0, 62, .inl a)), (Mk, .inl (G 0, zch k + 1, .inl g)), (Lf, .inl (G 0, zroom k + zch k, .inl lf2)), (Fd, .inl (G 0, zroom k + zch k, .inl fd2))] H := hP
        have hD : va_D A [(x, .inr (1, [.ref L, .ref Fd])), (L, .inl (G 0, 62, .inl a)), (Mk, .inl (G 0, zch k + 1, .inl g)), (Lf, .inl (G 0, zroom k + zch k, .inl lf2)), (Fd, .inl (G 0, zroom k + zch k, .inl fd2))] := hD
        refine lv_aload hx hb dX1_write_173 (lv_at hl 1 rfl) ?_
        refine va_alen (v := nI (zroom k + zch k)) hx hb hK hP 4 0 rfl rfl rfl dX1_write_175 ?_
        have hP := hP.sub (ws' := [(x, .inr (1, [.ref L, .ref Fd])), (L, .inl (G 0, 62, .inl a)), (Fd, .inl (G 0, zroom k + zch k, .inl fd2))]) [0, 1, 4] rfl
        have hD := hD.sub (ws' := [(x, .inr (1, [.ref L, .ref Fd])), (L, .inl (G 0, 62, .inl a)), (Fd, .inl (G 0, zroom k + zch k, .inl fd2))]) [0, 1, 4] (by decide) rfl
        exact z_iret hx hb hr (rfl) hlocks (Fd, fd2) (⟨rfl, h5⟩) hP hD hS dX1_write_176
      · intro k9 ih H locs ls hI
        obtain ⟨i, fd2, hi, h5, hP, hD, hS, hl⟩ := hI
        refine lv_iload hx hb dX1_write_143 (lv_at hl 0 rfl) ?_
        refine lv_aload hx hb dX1_write_145 (lv_at hl 1 rfl) ?_
        refine va_alen (v := nI (zroom k + zch k)) hx hb hK hP 4 0 rfl rfl rfl dX1_write_147 ?_
        refine lv_icmp_ge (tgt := 167) hx hb dX1_write_148 (by decide) (fun c9 => absurd c9 (nI_ge (by omega) (by omega))) (fun _ => ?_)
        refine lv_aload hx hb dX1_write_151 (lv_at hl 1 rfl) ?_
        refine lv_iload hx hb dX1_write_153 (lv_at hl 0 rfl) ?_
        refine lv_aload hx hb dX1_write_155 (lv_at hl 2 rfl) ?_
        refine lv_iload hx hb dX1_write_157 (lv_at hl 0 rfl) ?_
        refine z_iald (v := nI (zw k d i)) hx hb hK hP 3 0 rfl rfl (by omega) (by omega) (by rw [h3 i (by omega), zw_eq hk d (by omega) (by omega)]) dX1_write_159 ?_
        refine z_iast hx hb hK hP hD hS 4 0 rfl rfl (by omega) (by omega) dX1_write_160 (fun H locs hP hD hS => ?_)
        generalize ed : upd fd2 i (nI (zw k d i)) = fd3 at hP hD
        have hP : va_P D zCl [(x, .inr (1, [.ref L, .ref S])), (L, .inl (G 0, 62, .inl a)), (Mk, .inl (G 0, zch k + 1, .inl g)), (Lf, .inl (G 0, zroom k + zch k, .inl lf2)), (Fd, .inl (G 0, zroom k + zch k, .inl fd3))] H := hP
        have hD : va_D A [(x, .inr (1, [.ref L, .ref S])), (L, .inl (G 0, 62, .inl a)), (Mk, .inl (G 0, zch k + 1, .inl g)), (Lf, .inl (G 0, zroom k + zch k, .inl lf2)), (Fd, .inl (G 0, zroom k + zch k, .inl fd3))] := hD
        refine lv_iinc (v := (nI (i + 1))) (lv' := [(8, .int (nI (i + 1))), (7, .ref Fd), (6, .ref Lf), (5, .ref Mk), (4, .int (nI (zch k))), (3, .int (nI (zroom k))), (0, .ref x)]) hx hb dX1_write_161 hl (k := 0) rfl (nI_add i 1) (by decide) rfl (fun ls hl => ?_)
        refine lv_goto (tgt := 143) hx hb dX1_write_164 (by decide) ?_
        refine ih H locs ls ⟨i + 1, fd3, by omega, ?_, hP, hD, hS, lv_sub hl [0, 1, 2, 3, 4, 5, 6] rfl⟩
        rw [← ed]
        exact z_upd_lt (P := fun q x => x = nI (zw k d q)) h5 rfl
    · intro k9 ih H locs ls hI
      obtain ⟨i, lf2, hi, h3, hP, hD, hS, hl⟩ := hI
      refine lv_iload hx hb dX1_write_84 (lv_at hl 0 rfl) ?_
      refine lv_iload_n hx hb dX1_write_86 rfl (lv_at hl 5 rfl) ?_
      refine lv_icmp_ge (tgt := 140) hx hb dX1_write_87 (by decide) (fun c9 => absurd c9 (nI_ge (by omega) (by omega))) (fun _ => ?_)
      refine lv_aload hx hb dX1_write_90 (lv_at hl 2 rfl) ?_
      refine lv_iload hx hb dX1_write_92 (lv_at hl 0 rfl) ?_
      refine z_iald (v := nI (zl (zroom k) (zch k) (zmk (zch k)) d i i)) hx hb hK hP 3 0 rfl rfl (by omega) (by omega) (h3 i (by omega)) dX1_write_94 ?_
      refine lv_istore (lv' := [(9, .int (nI (zl (zroom k) (zch k) (zmk (zch k)) d i i))), (8, .int (nI i)), (7, .ref Fd), (6, .ref Lf), (5, .ref Mk), (4, .int (nI (zch k))), (3, .int (nI (zroom k))), (0, .ref x)]) hx hb dX1_write_95 hl (by decide) rfl (fun ls hl => ?_)
      refine lv_iconst (v := nI 0) hx hb dX1_write_97 (by decide) ?_
      refine lv_istore (lv' := [(10, .int (nI 0)), (9, .int (nI (zl (zroom k) (zch k) (zmk (zch k)) d i i))), (8, .int (nI i)), (7, .ref Fd), (6, .ref Lf), (5, .ref Mk), (4, .int (nI (zch k))), (3, .int (nI (zroom k))), (0, .ref x)]) hx hb dX1_write_98 hl (by decide) rfl (fun ls hl => ?_)
      have hl := lv_sub (l' := [(10, .int (nI 0)), (9, .int (nI (zl (zroom k) (zch k) (zmk (zch k)) d i i))), (8, .int (nI i)), (7, .ref Fd), (6, .ref Lf), (5, .ref Mk), (4, .int (nI (zch k))), (3, .int (nI (zroom k))), (0, .ref x)]) hl [0, 1, 2, 3, 4, 5, 6, 7, 8] rfl
      refine z_loop (cf := fun k9 => 41) (sf := fun k9 => 1585) (I := fun k9 H locs ls => ∃ (j : Nat) (lf3 : Nat → Int32), (j + k9 = zch k + 1) ∧ (∀ q, q < zroom k + zch k → lf3 q = nI (zli (zroom k) (zch k) (zmk (zch k)) d i j q)) ∧ va_P D zCl [(x, .inr (1, [.ref L, .ref S])), (L, .inl (G 0, 62, .inl a)), (Mk, .inl (G 0, zch k + 1, .inl g)), (Lf, .inl (G 0, zroom k + zch k, .inl lf3)), (Fd, .inl (G 0, zroom k + zch k, .inl fd0))] H ∧ va_D A [(x, .inr (1, [.ref L, .ref S])), (L, .inl (G 0, 62, .inl a)), (Mk, .inl (G 0, zch k + 1, .inl g)), (Lf, .inl (G 0, zroom k + zch k, .inl lf3)), (Fd, .inl (G 0, zroom k + zch k, .inl fd0))] ∧ va_S A s.heap H locs ∧ lv_has ls 11 [(10, .int (nI j)), (9, .int (nI (zl (zroom k) (zch k) (zmk (zch k)) d i i))), (8, .int (nI i)), (7, .ref Fd), (6, .ref Lf), (5, .ref Mk), (4, .int (nI (zch k))), (3, .int (nI (zroom k))), (0, .ref x)]) (N := zch k + 1) ⟨0, lf2, by omega, (fun q hq => by rw [h3 q hq, zli_0]), hP, hD, hS, hl⟩ ?_ ?_
      · intro H locs ls hI
        obtain ⟨j, lf3, hj, h4, hP, hD, hS, hl⟩ := hI
        obtain rfl : j = zch k + 1 := by omega
        refine lv_iload hx hb dX1_write_100 (lv_at hl 0 rfl) ?_
        refine lv_iload hx hb dX1_write_102 (lv_at hl 6 rfl) ?_
        refine lv_icmp_gt (tgt := 134) hx hb dX1_write_104 (by decide) (fun _ => ?_) (fun c9 => absurd (nI_lt (by omega) (by omega)) c9)
        refine lv_iinc (v := (nI (i + 1))) (lv' := [(8, .int (nI (i + 1))), (10, .int (nI (zch k + 1))), (9, .int (nI (zl (zroom k) (zch k) (zmk (zch k)) d i i))), (7, .ref Fd), (6, .ref Lf), (5, .ref Mk), (4, .int (nI (zch k))), (3, .int (nI (zroom k))), (0, .ref x)]) hx hb dX1_write_134 hl (k := 2) rfl (nI_add i 1) (by decide) rfl (fun ls hl => ?_)
        refine lv_goto (tgt := 84) hx hb dX1_write_137 (by decide) ?_
        refine ih H locs ls ⟨i + 1, lf3, by omega, (fun q hq => by rw [h4 q hq, zli_end]), hP, hD, hS, lv_sub hl [0, 3, 4, 5, 6, 7, 8] rfl⟩
      · intro k9 ih H locs ls hI
        obtain ⟨j, lf3, hj, h4, hP, hD, hS, hl⟩ := hI
        refine lv_iload hx hb dX1_write_100 (lv_at hl 0 rfl) ?_
        refine lv_iload hx hb dX1_write_102 (lv_at hl 6 rfl) ?_
        refine lv_icmp_gt (tgt := 134) hx hb dX1_write_104 (by decide) (fun c9 => absurd c9 (nI_nlt (by omega) (by omega))) (fun _ => ?_)
        refine lv_aload hx hb dX1_write_107 (lv_at hl 4 rfl) ?_
        refine lv_iload hx hb dX1_write_109 (lv_at hl 2 rfl) ?_
        refine lv_iload hx hb dX1_write_111 (lv_at hl 0 rfl) ?_
        refine z_iadd hx hb dX1_write_113 ?_
        refine lv_dup2_11 hx hb dX1_write_114 rfl rfl ?_
        refine z_iald (v := nI (zl (zroom k) (zch k) (zmk (zch k)) d i (i + j))) hx hb hK hP 3 0 rfl rfl (by omega) (by omega) (by rw [h4 _ (by omega), zli_at]) dX1_write_115 ?_
        refine lv_iload hx hb dX1_write_116 (lv_at hl 1 rfl) ?_
        refine lv_aload hx hb dX1_write_118 (lv_at hl 5 rfl) ?_
        refine lv_iload hx hb dX1_write_120 (lv_at hl 0 rfl) ?_
        refine z_iald (v := nI (zmk (zch k) j)) hx hb hK hP 2 0 rfl rfl (by omega) (by omega) (hg j (by omega)) dX1_write_122 ?_
        refine z_getc (va_runS (As := [.int (nI (zl (zroom k) (zch k) (zmk (zch k)) d i i)), .int (nI (zmk (zch k) j))]) (rest := [.int (nI (zl (zroom k) (zch k) (zmk (zch k)) d i (i + j))), .int (nI (i + j)), .ref Lf]) ⟨hx, hb, hml, hown, hts⟩ (g_X1_product l D G (zl_lt hd _ _) (zmk_lt _ _)) (va_cwS 2 hts (lw_S q572 q573 q3 q574) rfl rfl rfl (by decide +kernel) ⟨Nat.le_of_ble_eq_true rfl, Nat.le_of_ble_eq_true rfl⟩) (z_preSg hK hP hG hS [] rfl) rfl rfl hl.1 rfl (lv_room (Nat.le_of_ble_eq_true rfl)) dX1_write_123 ⟨Nat.le_of_ble_eq_true rfl, Nat.le_of_ble_eq_true rfl⟩) ?_
        refine z_ixor hx hb dX1_write_126 ?_
        rw [show nI (zl (zroom k) (zch k) (zmk (zch k)) d i (i + j) ^^^ zp (zl (zroom k) (zch k) (zmk (zch k)) d i i) (zmk (zch k) j)) = nI (zli (zroom k) (zch k) (zmk (zch k)) d i (j + 1) (i + j)) from congrArg nI (zli_s)]
        refine z_iast hx hb hK hP hD hS 3 0 rfl rfl (by omega) (by omega) dX1_write_127 (fun H locs hP hD hS => ?_)
        generalize el : upd lf3 (i + j) (nI (zli (zroom k) (zch k) (zmk (zch k)) d i (j + 1) (i + j))) = lf4 at hP hD
        have hP : va_P D zCl [(x, .inr (1, [.ref L, .ref S])), (L, .inl (G 0, 62, .inl a)), (Mk, .inl (G 0, zch k + 1, .inl g)), (Lf, .inl (G 0, zroom k + zch k, .inl lf4)), (Fd, .inl (G 0, zroom k + zch k, .inl fd0))] H := hP
        have hD : va_D A [(x, .inr (1, [.ref L, .ref S])), (L, .inl (G 0, 62, .inl a)), (Mk, .inl (G 0, zch k + 1, .inl g)), (Lf, .inl (G 0, zroom k + zch k, .inl lf4)), (Fd, .inl (G 0, zroom k + zch k, .inl fd0))] := hD
        refine lv_iinc (v := (nI (j + 1))) (lv' := [(10, .int (nI (j + 1))), (9, .int (nI (zl (zroom k) (zch k) (zmk (zch k)) d i i))), (8, .int (nI i)), (7, .ref Fd), (6, .ref Lf), (5, .ref Mk), (4, .int (nI (zch k))), (3, .int (nI (zroom k))), (0, .ref x)]) hx hb dX1_write_128 hl (k := 0) rfl (nI_add j 1) (by decide) rfl (fun ls hl => ?_)
        refine lv_goto (tgt := 100) hx hb dX1_write_131 (by decide) ?_
        refine ih H locs ls ⟨j + 1, lf4, by omega, ?_, hP, hD, hS, lv_sub hl [0, 1, 2, 3, 4, 5, 6, 7, 8] rfl⟩
        rw [← el]
        refine z_upd_all (P := fun q x => x = nI (zli (zroom k) (zch k) (zmk (zch k)) d i (j + 1) q)) (fun q h8 h9 => ?_) rfl
        rw [h4 q h8, zli_ne h9]
  · intro k9 ih H locs ls hI
    obtain ⟨i, lf0, fd0, hi, h1, h2, hP, hD, hS, hl⟩ := hI
    refine lv_iload hx hb dX1_write_45 (lv_at hl 0 rfl) ?_
    refine lv_iload_n hx hb dX1_write_47 rfl (lv_at hl 5 rfl) ?_
    refine lv_icmp_ge (tgt := 81) hx hb dX1_write_48 (by decide) (fun c9 => absurd c9 (nI_ge (by omega) (by omega))) (fun _ => ?_)
    have hdi := ha i (by omega)
    refine lv_aload hx hb dX1_write_51 (lv_at hl 2 rfl) ?_
    refine lv_iload hx hb dX1_write_53 (lv_at hl 0 rfl) ?_
    refine lv_aload_n hx hb dX1_write_55 rfl (lv_at hl 6 rfl) ?_
    refine va_get (D := D) (ci := 1) (v := .ref L) (C := RX1) (T := TX1) (N := 2) hx hb hts in_X1 hown hK hP 0 rfl rfl 0 (by decide) (hts _ q543) (fun _ h9 => h9) rfl dX1_write_56 ?_
    refine lv_iload hx hb dX1_write_59 (lv_at hl 0 rfl) ?_
    refine z_iald (v := nI (d i)) hx hb hK hP 1 0 rfl rfl (by omega) (by omega) hdi.2 dX1_write_61 ?_
    refine z_iast hx hb hK hP hD hS 3 0 rfl rfl (by omega) (by omega) dX1_write_62 (fun H locs hP hD hS => ?_)
    generalize el : upd lf0 i (nI (d i)) = lf1 at hP hD
    have hP : va_P D zCl [(x, .inr (1, [.ref L, .ref S])), (L, .inl (G 0, 62, .inl a)), (Mk, .inl (G 0, zch k + 1, .inl g)), (Lf, .inl (G 0, zroom k + zch k, .inl lf1)), (Fd, .inl (G 0, zroom k + zch k, .inl fd0))] H := hP
    have hD : va_D A [(x, .inr (1, [.ref L, .ref S])), (L, .inl (G 0, 62, .inl a)), (Mk, .inl (G 0, zch k + 1, .inl g)), (Lf, .inl (G 0, zroom k + zch k, .inl lf1)), (Fd, .inl (G 0, zroom k + zch k, .inl fd0))] := hD
    refine lv_aload hx hb dX1_write_63 (lv_at hl 1 rfl) ?_
    refine lv_iload hx hb dX1_write_65 (lv_at hl 0 rfl) ?_
    refine lv_aload_n hx hb dX1_write_67 rfl (lv_at hl 6 rfl) ?_
    refine va_get (D := D) (ci := 1) (v := .ref L) (C := RX1) (T := TX1) (N := 2) hx hb hts in_X1 hown hK hP 0 rfl rfl 0 (by decide) (hts _ q543) (fun _ h9 => h9) rfl dX1_write_68 ?_
    refine lv_iload hx hb dX1_write_71 (lv_at hl 0 rfl) ?_
    refine z_iald (v := nI (d i)) hx hb hK hP 1 0 rfl rfl (by omega) (by omega) hdi.2 dX1_write_73 ?_
    refine z_iast hx hb hK hP hD hS 4 0 rfl rfl (by omega) (by omega) dX1_write_74 (fun H locs hP hD hS => ?_)
    generalize ed : upd fd0 i (nI (d i)) = fd1 at hP hD
    have hP : va_P D zCl [(x, .inr (1, [.ref L, .ref S])), (L, .inl (G 0, 62, .inl a)), (Mk, .inl (G 0, zch k + 1, .inl g)), (Lf, .inl (G 0, zroom k + zch k, .inl lf1)), (Fd, .inl (G 0, zroom k + zch k, .inl fd1))] H := hP
    have hD : va_D A [(x, .inr (1, [.ref L, .ref S])), (L, .inl (G 0, 62, .inl a)), (Mk, .inl (G 0, zch k + 1, .inl g)), (Lf, .inl (G 0, zroom k + zch k, .inl lf1)), (Fd, .inl (G 0, zroom k + zch k, .inl fd1))] := hD
    refine lv_iinc (v := (nI (i + 1))) (lv' := [(8, .int (nI (i + 1))), (7, .ref Fd), (6, .ref Lf), (5, .ref Mk), (4, .int (nI (zch k))), (3, .int (nI (zroom k))), (0, .ref x)]) hx hb dX1_write_75 hl (k := 0) rfl (nI_add i 1) (by decide) rfl (fun ls hl => ?_)
    refine lv_goto (tgt := 45) hx hb dX1_write_78 (by decide) ?_
    refine ih H locs ls ⟨i + 1, lf1, fd1, by omega, ?_, ?_, hP, hD, hS, lv_sub hl [0, 1, 2, 3, 4, 5, 6] rfl⟩
    · rw [← el]
      refine z_upd_all (P := fun j x => x = nI (if j < i + 1 then d j else 0)) (fun j h8 h9 => ?_) ?_
      · rw [h1 j h8]
        by_cases h7 : j < i
        · rw [if_pos h7, if_pos (by omega)]
        · rw [if_neg h7, if_neg (by omega)]
      · rw [if_pos (by omega)]
    · rw [← ed]
      exact z_upd_lt (P := fun j x => x = nI (d j)) h2 rfl
set_option maxHeartbeats 4000000 in
set_option maxRecDepth 100000 in
theorem g_X1_whole (l : Launch) (D : va_G) (G : Nat → Nat) {x L S n : Nat} {f : Nat → Int32} {t : Nat → Nat} (p0 : Int32) (h1 : 0 < n) (hn : n < 2 ^ 30) (hf : ∀ j, j < n → f j = nI (t j)) : zGet l yX1_whole cX1_whole 2 (Option.some Jvm.ClassFile.FieldType.int) ({ frames := 0, cells := 0, slots := 0, locals := 0 } : Room) D G [.ref x, .int p0] [(x, .inr (1, [.ref L, .ref S])), (S, .inl (G 0, n, .inl f))] (.int (nI (t (zix p0 n)))) := by
  refine z_gmet (by decide) (Nat.le_of_ble_eq_true rfl) ?_
  intro p e s m below meth c ls hx hb hr hml hown hlocks hts hK hP hS hG hl
  have hown : s.vm.findClass RX1 = some m.cls := hown
  have hP : va_P D zCl [(x, .inr (1, [.ref L, .ref S])), (S, .inl (G 0, n, .inl f))] s.heap := hP
  have hl : lv_has ls 2 [(0, .ref x), (1, .int p0)] := hl
  refine lv_aload_n hx hb dX1_whole_0 rfl (lv_at hl 0 rfl) ?_
  refine va_get (D := D) (ci := 1) (v := .ref S) (C := RX1) (T := TX1) (N := 2) hx hb hts in_X1 hown hK hP 0 rfl rfl 1 (by decide) (hts _ q544) (fun _ h9 => h9) rfl dX1_whole_1 ?_
  refine va_alen (v := nI n) hx hb hK hP 1 0 rfl rfl rfl dX1_whole_4 ?_
  refine lv_if_ne (tgt := 12) hx hb dX1_whole_5 (by decide) (fun _ => ?_) (fun c9 => absurd c9 (nI_ne0 h1 (by omega)))
  refine lv_aload_n hx hb dX1_whole_12 rfl (lv_at hl 0 rfl) ?_
  refine va_get (D := D) (ci := 1) (v := .ref S) (C := RX1) (T := TX1) (N := 2) hx hb hts in_X1 hown hK hP 0 rfl rfl 1 (by decide) (hts _ q544) (fun _ h9 => h9) rfl dX1_whole_13 ?_
  refine lv_iload_n hx hb dX1_whole_16 rfl (lv_at hl 1 rfl) ?_
  refine lv_ldc (v := 2147483647) hx hb hown (hts _ q554) dX1_whole_17 ?_
  refine z_iandK (M := 2147483647) hx hb 31 (by decide) dX1_whole_19 ?_
  refine lv_aload_n hx hb dX1_whole_20 rfl (lv_at hl 0 rfl) ?_
  refine va_get (D := D) (ci := 1) (v := .ref S) (C := RX1) (T := TX1) (N := 2) hx hb hts in_X1 hown hK hP 0 rfl rfl 1 (by decide) (hts _ q544) (fun _ h9 => h9) rfl dX1_whole_21 ?_
  refine va_alen (v := nI n) hx hb hK hP 1 0 rfl rfl rfl dX1_whole_24 ?_
  refine z_irem hx hb (by omega) (by omega) (by omega) dX1_whole_25 ?_
  rw [show (.int (nI ((p0.toBitVec.toNat % 2 ^ 31) % n)) : Value) = .int (nI (zix p0 n)) from rfl]
  have hi := zix_lt p0 h1
  refine z_iald (v := nI (t (zix p0 n))) hx hb hK hP 1 0 rfl rfl (by omega) (by omega) (hf _ hi) dX1_whole_26 ?_
  exact z_gret hx hb hr (rfl) hlocks dX1_whole_27
set_option maxHeartbeats 4000000 in
set_option maxRecDepth 100000 in
theorem g_X1_whole0 (l : Launch) (D : va_G) (G : Nat → Nat) {x L S : Nat} {f : Nat → Int32} (p0 : Int32) : zGet l yX1_whole cX1_whole 2 (Option.some Jvm.ClassFile.FieldType.int) ({ frames := 0, cells := 0, slots := 0, locals := 0 } : Room) D G [.ref x, .int p0] [(x, .inr (1, [.ref L, .ref S])), (S, .inl (G 0, 0, .inl f))] (.int (-1)) := by
  refine z_gmet (by decide) (Nat.le_of_ble_eq_true rfl) ?_
  intro p e s m below meth c ls hx hb hr hml hown hlocks hts hK hP hS hG hl
  have hown : s.vm.findClass RX1 = some m.cls := hown
  have hP : va_P D zCl [(x, .inr (1, [.ref L, .ref S])), (S, .inl (G 0, 0, .inl f))] s.heap := hP
  have hl : lv_has ls 2 [(0, .ref x), (1, .int p0)] := hl
  refine lv_aload_n hx hb dX1_whole_0 rfl (lv_at hl 0 rfl) ?_
  refine va_get (D := D) (ci := 1) (v := .ref S) (C := RX1) (T := TX1) (N := 2) hx hb hts in_X1 hown hK hP 0 rfl rfl 1 (by decide) (hts _ q544) (fun _ h9 => h9) rfl dX1_whole_1 ?_
  refine va_alen (v := nI 0) hx hb hK hP 1 0 rfl rfl rfl dX1_whole_4 ?_
  refine lv_if_ne (tgt := 12) hx hb dX1_whole_5 (by decide) (fun c9 => absurd (show nI 0 = 0 by decide) c9) (fun _ => ?_)
  refine lv_iconst (v := (-1)) hx hb dX1_whole_8 (by decide) ?_
  refine lv_goto (tgt := 27) hx hb dX1_whole_9 (by decide) ?_
  exact z_gret hx hb hr (rfl) hlocks dX1_whole_27
end
section
/-! THE START: the classes, the array classes and the constants, out of what the Statement gives -/
set_option maxRecDepth 100000
theorem z_seg {T : Cond} (o N : Nat) (g : Nat → Cond) (h : ((flatC T).drop o).take N = (List.range N).map g) {args : Array Value} {s : State} (hT : T.before args s = true) : ∀ j, j < N → (g j).before args s = true := fun j hj =>
  flat_of_before T hT _ (List.mem_of_mem_drop (List.mem_of_mem_take (by rw [h]; exact List.mem_map.mpr ⟨j, List.mem_range.mpr hj, rfl⟩)))
theorem z_one {T c : Cond} (i : Nat) (h : (flatC T)[i]? = some c) {args : Array Value} {s : State} (hT : T.before args s = true) : c.before args s = true := flat_of_before T hT _ (List.mem_of_getElem? h)
theorem z_tabOf {T : Cond} {args : Array Value} {s : State} {tm : Term} {N i1 i2 o : Nat} {tab : Nat → Nat} {A : Nat → Prop} (hT : T.before args s = true) (hN : N < 2 ^ 31) (h1 : (flatC T)[i1]? = some (.arrayOf tm .int)) (h2 : (flatC T)[i2]? = some (.eq (.length tm) (.int (Int32.ofNat N))))
    (h3 : ((flatC T).drop o).take N = (List.range N).map (fun j => Cond.eq (.elem tm (.int (Int32.ofNat j))) (.int (nI (tab j))))) (hA : ∀ a : Nat, a < s.heap.size → ¬ A a) : ∃ t : Nat, tm.eval args s none [] s = some (.ref t) ∧ va_T .int t N (fun j => .int (nI (tab j))) A s s.heap :=
  va_Tof hN (z_one i1 h1 hT) (va_eqt (z_one i2 h2 hT)) (fun j hj => va_eqt (z_seg o N _ h3 hT j hj)) hA
theorem z_s1_ROOM : (flatC (Jvm.Cond.and given_1 narrow_1))[6]? = some (.arrayOf (.static "SquareParity" "ROOM" "[I") .int) := by decide +kernel
theorem z_s2_ROOM : (flatC (Jvm.Cond.and given_1 narrow_1))[8]? = some (.eq (.length (.static "SquareParity" "ROOM" "[I")) (.int (Int32.ofNat 10))) := by decide +kernel
theorem z_s3_ROOM : ((flatC (Jvm.Cond.and given_1 narrow_1)).drop 9).take 10 = (List.range 10).map (fun j => Cond.eq (.elem (.static "SquareParity" "ROOM" "[I") (.int (Int32.ofNat j))) (.int (nI (zroom j)))) := by decide +kernel
theorem z_s1_CHECKS : (flatC (Jvm.Cond.and given_1 narrow_1))[25]? = some (.arrayOf (.static "SquareParity" "CHECKS" "[I") .int) := by decide +kernel
theorem z_s2_CHECKS : (flatC (Jvm.Cond.and given_1 narrow_1))[27]? = some (.eq (.length (.static "SquareParity" "CHECKS" "[I")) (.int (Int32.ofNat 10))) := by decide +kernel
theorem z_s3_CHECKS : ((flatC (Jvm.Cond.and given_1 narrow_1)).drop 28).take 10 = (List.range 10).map (fun j => Cond.eq (.elem (.static "SquareParity" "CHECKS" "[I") (.int (Int32.ofNat j))) (.int (nI (zch j)))) := by decide +kernel
theorem z_s1_FACTOR_SETS : (flatC (Jvm.Cond.and given_1 narrow_1))[41]? = some (.arrayOf (.static "ErrorCorrection" "FACTOR_SETS" "[I") .int) := by decide +kernel
theorem z_s2_FACTOR_SETS : (flatC (Jvm.Cond.and given_1 narrow_1))[43]? = some (.eq (.length (.static "ErrorCorrection" "FACTOR_SETS" "[I")) (.int (Int32.ofNat 16))) := by decide +kernel
theorem z_s3_FACTOR_SETS : ((flatC (Jvm.Cond.and given_1 narrow_1)).drop 44).take 16 = (List.range 16).map (fun j => Cond.eq (.elem (.static "ErrorCorrection" "FACTOR_SETS" "[I") (.int (Int32.ofNat j))) (.int (nI (zfs j)))) := by decide +kernel
theorem z_s1_LOG : (flatC (Jvm.Cond.and given_1 narrow_1))[969]? = some (.arrayOf (.static "ErrorCorrection" "LOG" "[I") .int) := by decide +kernel
theorem z_s2_LOG : (flatC (Jvm.Cond.and given_1 narrow_1))[971]? = some (.eq (.length (.static "ErrorCorrection" "LOG" "[I")) (.int (Int32.ofNat 256))) := by decide +kernel
theorem z_s3_LOG : ((flatC (Jvm.Cond.and given_1 narrow_1)).drop 972).take 256 = (List.range 256).map (fun j => Cond.eq (.elem (.static "ErrorCorrection" "LOG" "[I") (.int (Int32.ofNat j))) (.int (nI (zlog j)))) := by decide +kernel
theorem z_s1_ALOG : (flatC (Jvm.Cond.and given_1 narrow_1))[710]? = some (.arrayOf (.static "ErrorCorrection" "ALOG" "[I") .int) := by decide +kernel
theorem z_s2_ALOG : (flatC (Jvm.Cond.and given_1 narrow_1))[712]? = some (.eq (.length (.static "ErrorCorrection" "ALOG" "[I")) (.int (Int32.ofNat 255))) := by decide +kernel
theorem z_s3_ALOG : ((flatC (Jvm.Cond.and given_1 narrow_1)).drop 713).take 255 = (List.range 255).map (fun j => Cond.eq (.elem (.static "ErrorCorrection" "ALOG" "[I") (.int (Int32.ofNat j))) (.int (nI (zalog j)))) := by decide +kernel
theorem z_s1_r0 : (flatC (Jvm.Cond.and given_1 narrow_1))[65]? = some (.arrayOf (.elem (.static "ErrorCorrection" "FACTORS" "[[I") (.int (Int32.ofNat 0))) .int) := by decide +kernel
theorem z_s2_r0 : (flatC (Jvm.Cond.and given_1 narrow_1))[67]? = some (.eq (.length (.elem (.static "ErrorCorrection" "FACTORS" "[[I") (.int (Int32.ofNat 0)))) (.int (Int32.ofNat (zfs 0)))) := by decide +kernel
theorem z_s3_r0 : ((flatC (Jvm.Cond.and given_1 narrow_1)).drop 68).take (zfs 0) = (List.range (zfs 0)).map (fun j => Cond.eq (.elem (.elem (.static "ErrorCorrection" "FACTORS" "[[I") (.int (Int32.ofNat 0))) (.int (Int32.ofNat j))) (.int (nI (zfac 0 j)))) := by decide +kernel
theorem z_s1_r1 : (flatC (Jvm.Cond.and given_1 narrow_1))[74]? = some (.arrayOf (.elem (.static "ErrorCorrection" "FACTORS" "[[I") (.int (Int32.ofNat 1))) .int) := by decide +kernel
theorem z_s2_r1 : (flatC (Jvm.Cond.and given_1 narrow_1))[76]? = some (.eq (.length (.elem (.static "ErrorCorrection" "FACTORS" "[[I") (.int (Int32.ofNat 1)))) (.int (Int32.ofNat (zfs 1)))) := by decide +kernel
theorem z_s3_r1 : ((flatC (Jvm.Cond.and given_1 narrow_1)).drop 77).take (zfs 1) = (List.range (zfs 1)).map (fun j => Cond.eq (.elem (.elem (.static "ErrorCorrection" "FACTORS" "[[I") (.int (Int32.ofNat 1))) (.int (Int32.ofNat j))) (.int (nI (zfac 1 j)))) := by decide +kernel
theorem z_s1_r2 : (flatC (Jvm.Cond.and given_1 narrow_1))[86]? = some (.arrayOf (.elem (.static "ErrorCorrection" "FACTORS" "[[I") (.int (Int32.ofNat 2))) .int) := by decide +kernel
theorem z_s2_r2 : (flatC (Jvm.Cond.and given_1 narrow_1))[88]? = some (.eq (.length (.elem (.static "ErrorCorrection" "FACTORS" "[[I") (.int (Int32.ofNat 2)))) (.int (Int32.ofNat (zfs 2)))) := by decide +kernel
theorem z_s3_r2 : ((flatC (Jvm.Cond.and given_1 narrow_1)).drop 89).take (zfs 2) = (List.range (zfs 2)).map (fun j => Cond.eq (.elem (.elem (.static "ErrorCorrection" "FACTORS" "[[I") (.int (Int32.ofNat 2))) (.int (Int32.ofNat j))) (.int (nI (zfac 2 j)))) := by decide +kernel
theorem z_s1_r3 : (flatC (Jvm.Cond.and given_1 narrow_1))[102]? = some (.arrayOf (.elem (.static "ErrorCorrection" "FACTORS" "[[I") (.int (Int32.ofNat 3))) .int) := by decide +kernel
theorem z_s2_r3 : (flatC (Jvm.Cond.and given_1 narrow_1))[104]? = some (.eq (.length (.elem (.static "ErrorCorrection" "FACTORS" "[[I") (.int (Int32.ofNat 3)))) (.int (Int32.ofNat (zfs 3)))) := by decide +kernel
theorem z_s3_r3 : ((flatC (Jvm.Cond.and given_1 narrow_1)).drop 105).take (zfs 3) = (List.range (zfs 3)).map (fun j => Cond.eq (.elem (.elem (.static "ErrorCorrection" "FACTORS" "[[I") (.int (Int32.ofNat 3))) (.int (Int32.ofNat j))) (.int (nI (zfac 3 j)))) := by decide +kernel
theorem z_s1_r4 : (flatC (Jvm.Cond.and given_1 narrow_1))[120]? = some (.arrayOf (.elem (.static "ErrorCorrection" "FACTORS" "[[I") (.int (Int32.ofNat 4))) .int) := by decide +kernel
theorem z_s2_r4 : (flatC (Jvm.Cond.and given_1 narrow_1))[122]? = some (.eq (.length (.elem (.static "ErrorCorrection" "FACTORS" "[[I") (.int (Int32.ofNat 4)))) (.int (Int32.ofNat (zfs 4)))) := by decide +kernel
theorem z_s3_r4 : ((flatC (Jvm.Cond.and given_1 narrow_1)).drop 123).take (zfs 4) = (List.range (zfs 4)).map (fun j => Cond.eq (.elem (.elem (.static "ErrorCorrection" "FACTORS" "[[I") (.int (Int32.ofNat 4))) (.int (Int32.ofNat j))) (.int (nI (zfac 4 j)))) := by decide +kernel
theorem z_s1_r5 : (flatC (Jvm.Cond.and given_1 narrow_1))[140]? = some (.arrayOf (.elem (.static "ErrorCorrection" "FACTORS" "[[I") (.int (Int32.ofNat 5))) .int) := by decide +kernel
theorem z_s2_r5 : (flatC (Jvm.Cond.and given_1 narrow_1))[142]? = some (.eq (.length (.elem (.static "ErrorCorrection" "FACTORS" "[[I") (.int (Int32.ofNat 5)))) (.int (Int32.ofNat (zfs 5)))) := by decide +kernel
theorem z_s3_r5 : ((flatC (Jvm.Cond.and given_1 narrow_1)).drop 143).take (zfs 5) = (List.range (zfs 5)).map (fun j => Cond.eq (.elem (.elem (.static "ErrorCorrection" "FACTORS" "[[I") (.int (Int32.ofNat 5))) (.int (Int32.ofNat j))) (.int (nI (zfac 5 j)))) := by decide +kernel
theorem z_s1_r6 : (flatC (Jvm.Cond.and given_1 narrow_1))[163]? = some (.arrayOf (.elem (.static "ErrorCorrection" "FACTORS" "[[I") (.int (Int32.ofNat 6))) .int) := by decide +kernel
theorem z_s2_r6 : (flatC (Jvm.Cond.and given_1 narrow_1))[165]? = some (.eq (.length (.elem (.static "ErrorCorrection" "FACTORS" "[[I") (.int (Int32.ofNat 6)))) (.int (Int32.ofNat (zfs 6)))) := by decide +kernel
theorem z_s3_r6 : ((flatC (Jvm.Cond.and given_1 narrow_1)).drop 166).take (zfs 6) = (List.range (zfs 6)).map (fun j => Cond.eq (.elem (.elem (.static "ErrorCorrection" "FACTORS" "[[I") (.int (Int32.ofNat 6))) (.int (Int32.ofNat j))) (.int (nI (zfac 6 j)))) := by decide +kernel
theorem z_s1_r7 : (flatC (Jvm.Cond.and given_1 narrow_1))[191]? = some (.arrayOf (.elem (.static "ErrorCorrection" "FACTORS" "[[I") (.int (Int32.ofNat 7))) .int) := by decide +kernel
theorem z_s2_r7 : (flatC (Jvm.Cond.and given_1 narrow_1))[193]? = some (.eq (.length (.elem (.static "ErrorCorrection" "FACTORS" "[[I") (.int (Int32.ofNat 7)))) (.int (Int32.ofNat (zfs 7)))) := by decide +kernel
theorem z_s3_r7 : ((flatC (Jvm.Cond.and given_1 narrow_1)).drop 194).take (zfs 7) = (List.range (zfs 7)).map (fun j => Cond.eq (.elem (.elem (.static "ErrorCorrection" "FACTORS" "[[I") (.int (Int32.ofNat 7))) (.int (Int32.ofNat j))) (.int (nI (zfac 7 j)))) := by decide +kernel
theorem z_s1_r8 : (flatC (Jvm.Cond.and given_1 narrow_1))[222]? = some (.arrayOf (.elem (.static "ErrorCorrection" "FACTORS" "[[I") (.int (Int32.ofNat 8))) .int) := by decide +kernel
theorem z_s2_r8 : (flatC (Jvm.Cond.and given_1 narrow_1))[224]? = some (.eq (.length (.elem (.static "ErrorCorrection" "FACTORS" "[[I") (.int (Int32.ofNat 8)))) (.int (Int32.ofNat (zfs 8)))) := by decide +kernel
theorem z_s3_r8 : ((flatC (Jvm.Cond.and given_1 narrow_1)).drop 225).take (zfs 8) = (List.range (zfs 8)).map (fun j => Cond.eq (.elem (.elem (.static "ErrorCorrection" "FACTORS" "[[I") (.int (Int32.ofNat 8))) (.int (Int32.ofNat j))) (.int (nI (zfac 8 j)))) := by decide +kernel
theorem z_s1_r9 : (flatC (Jvm.Cond.and given_1 narrow_1))[258]? = some (.arrayOf (.elem (.static "ErrorCorrection" "FACTORS" "[[I") (.int (Int32.ofNat 9))) .int) := by decide +kernel
theorem z_s2_r9 : (flatC (Jvm.Cond.and given_1 narrow_1))[260]? = some (.eq (.length (.elem (.static "ErrorCorrection" "FACTORS" "[[I") (.int (Int32.ofNat 9)))) (.int (Int32.ofNat (zfs 9)))) := by decide +kernel
theorem z_s3_r9 : ((flatC (Jvm.Cond.and given_1 narrow_1)).drop 261).take (zfs 9) = (List.range (zfs 9)).map (fun j => Cond.eq (.elem (.elem (.static "ErrorCorrection" "FACTORS" "[[I") (.int (Int32.ofNat 9))) (.int (Int32.ofNat j))) (.int (nI (zfac 9 j)))) := by decide +kernel
theorem z_s1_r10 : (flatC (Jvm.Cond.and given_1 narrow_1))[299]? = some (.arrayOf (.elem (.static "ErrorCorrection" "FACTORS" "[[I") (.int (Int32.ofNat 10))) .int) := by decide +kernel
theorem z_s2_r10 : (flatC (Jvm.Cond.and given_1 narrow_1))[301]? = some (.eq (.length (.elem (.static "ErrorCorrection" "FACTORS" "[[I") (.int (Int32.ofNat 10)))) (.int (Int32.ofNat (zfs 10)))) := by decide +kernel
theorem z_s3_r10 : ((flatC (Jvm.Cond.and given_1 narrow_1)).drop 302).take (zfs 10) = (List.range (zfs 10)).map (fun j => Cond.eq (.elem (.elem (.static "ErrorCorrection" "FACTORS" "[[I") (.int (Int32.ofNat 10))) (.int (Int32.ofNat j))) (.int (nI (zfac 10 j)))) := by decide +kernel
theorem z_s1_r11 : (flatC (Jvm.Cond.and given_1 narrow_1))[349]? = some (.arrayOf (.elem (.static "ErrorCorrection" "FACTORS" "[[I") (.int (Int32.ofNat 11))) .int) := by decide +kernel
theorem z_s2_r11 : (flatC (Jvm.Cond.and given_1 narrow_1))[351]? = some (.eq (.length (.elem (.static "ErrorCorrection" "FACTORS" "[[I") (.int (Int32.ofNat 11)))) (.int (Int32.ofNat (zfs 11)))) := by decide +kernel
theorem z_s3_r11 : ((flatC (Jvm.Cond.and given_1 narrow_1)).drop 352).take (zfs 11) = (List.range (zfs 11)).map (fun j => Cond.eq (.elem (.elem (.static "ErrorCorrection" "FACTORS" "[[I") (.int (Int32.ofNat 11))) (.int (Int32.ofNat j))) (.int (nI (zfac 11 j)))) := by decide +kernel
theorem z_s1_r12 : (flatC (Jvm.Cond.and given_1 narrow_1))[406]? = some (.arrayOf (.elem (.static "ErrorCorrection" "FACTORS" "[[I") (.int (Int32.ofNat 12))) .int) := by decide +kernel
theorem z_s2_r12 : (flatC (Jvm.Cond.and given_1 narrow_1))[408]? = some (.eq (.length (.elem (.static "ErrorCorrection" "FACTORS" "[[I") (.int (Int32.ofNat 12)))) (.int (Int32.ofNat (zfs 12)))) := by decide +kernel
theorem z_s3_r12 : ((flatC (Jvm.Cond.and given_1 narrow_1)).drop 409).take (zfs 12) = (List.range (zfs 12)).map (fun j => Cond.eq (.elem (.elem (.static "ErrorCorrection" "FACTORS" "[[I") (.int (Int32.ofNat 12))) (.int (Int32.ofNat j))) (.int (nI (zfac 12 j)))) := by decide +kernel
theorem z_s1_r13 : (flatC (Jvm.Cond.and given_1 narrow_1))[470]? = some (.arrayOf (.elem (.static "ErrorCorrection" "FACTORS" "[[I") (.int (Int32.ofNat 13))) .int) := by decide +kernel
theorem z_s2_r13 : (flatC (Jvm.Cond.and given_1 narrow_1))[472]? = some (.eq (.length (.elem (.static "ErrorCorrection" "FACTORS" "[[I") (.int (Int32.ofNat 13)))) (.int (Int32.ofNat (zfs 13)))) := by decide +kernel
theorem z_s3_r13 : ((flatC (Jvm.Cond.and given_1 narrow_1)).drop 473).take (zfs 13) = (List.range (zfs 13)).map (fun j => Cond.eq (.elem (.elem (.static "ErrorCorrection" "FACTORS" "[[I") (.int (Int32.ofNat 13))) (.int (Int32.ofNat j))) (.int (nI (zfac 13 j)))) := by decide +kernel
theorem z_s1_r14 : (flatC (Jvm.Cond.and given_1 narrow_1))[543]? = some (.arrayOf (.elem (.static "ErrorCorrection" "FACTORS" "[[I") (.int (Int32.ofNat 14))) .int) := by decide +kernel
theorem z_s2_r14 : (flatC (Jvm.Cond.and given_1 narrow_1))[545]? = some (.eq (.length (.elem (.static "ErrorCorrection" "FACTORS" "[[I") (.int (Int32.ofNat 14)))) (.int (Int32.ofNat (zfs 14)))) := by decide +kernel
theorem z_s3_r14 : ((flatC (Jvm.Cond.and given_1 narrow_1)).drop 546).take (zfs 14) = (List.range (zfs 14)).map (fun j => Cond.eq (.elem (.elem (.static "ErrorCorrection" "FACTORS" "[[I") (.int (Int32.ofNat 14))) (.int (Int32.ofNat j))) (.int (nI (zfac 14 j)))) := by decide +kernel
theorem z_s1_r15 : (flatC (Jvm.Cond.and given_1 narrow_1))[623]? = some (.arrayOf (.elem (.static "ErrorCorrection" "FACTORS" "[[I") (.int (Int32.ofNat 15))) .int) := by decide +kernel
theorem z_s2_r15 : (flatC (Jvm.Cond.and given_1 narrow_1))[625]? = some (.eq (.length (.elem (.static "ErrorCorrection" "FACTORS" "[[I") (.int (Int32.ofNat 15)))) (.int (Int32.ofNat (zfs 15)))) := by decide +kernel
theorem z_s3_r15 : ((flatC (Jvm.Cond.and given_1 narrow_1)).drop 626).take (zfs 15) = (List.range (zfs 15)).map (fun j => Cond.eq (.elem (.elem (.static "ErrorCorrection" "FACTORS" "[[I") (.int (Int32.ofNat 15))) (.int (Int32.ofNat j))) (.int (nI (zfac 15 j)))) := by decide +kernel
theorem z_rows {args : Array Value} {s : State} {A : Nat → Prop} (hT : (Jvm.Cond.and given_1 narrow_1).before args s = true) (hA : ∀ a : Nat, a < s.heap.size → ¬ A a) : ∀ r, r < 16 → ∃ t : Nat, (Term.elem (.static "ErrorCorrection" "FACTORS" "[[I") (.int (Int32.ofNat r))).eval args s none [] s = some (.ref t) ∧ va_T .int t (zfs r) (fun j => .int (nI (zfac r j))) A s s.heap := by
  intro r hr
  have hN : zfs r < 2 ^ 31 := Nat.lt_trans (zby_lt _ _) (by decide)
  rcases (show r = 0 ∨ r = 1 ∨ r = 2 ∨ r = 3 ∨ r = 4 ∨ r = 5 ∨ r = 6 ∨ r = 7 ∨ r = 8 ∨ r = 9 ∨ r = 10 ∨ r = 11 ∨ r = 12 ∨ r = 13 ∨ r = 14 ∨ r = 15 by omega) with rfl | rfl | rfl | rfl | rfl | rfl | rfl | rfl | rfl | rfl | rfl | rfl | rfl | rfl | rfl | rfl
  · exact z_tabOf hT hN z_s1_r0 z_s2_r0 z_s3_r0 hA
  · exact z_tabOf hT hN z_s1_r1 z_s2_r1 z_s3_r1 hA
  · exact z_tabOf hT hN z_s1_r2 z_s2_r2 z_s3_r2 hA
  · exact z_tabOf hT hN z_s1_r3 z_s2_r3 z_s3_r3 hA
  · exact z_tabOf hT hN z_s1_r4 z_s2_r4 z_s3_r4 hA
  · exact z_tabOf hT hN z_s1_r5 z_s2_r5 z_s3_r5 hA
  · exact z_tabOf hT hN z_s1_r6 z_s2_r6 z_s3_r6 hA
  · exact z_tabOf hT hN z_s1_r7 z_s2_r7 z_s3_r7 hA
  · exact z_tabOf hT hN z_s1_r8 z_s2_r8 z_s3_r8 hA
  · exact z_tabOf hT hN z_s1_r9 z_s2_r9 z_s3_r9 hA
  · exact z_tabOf hT hN z_s1_r10 z_s2_r10 z_s3_r10 hA
  · exact z_tabOf hT hN z_s1_r11 z_s2_r11 z_s3_r11 hA
  · exact z_tabOf hT hN z_s1_r12 z_s2_r12 z_s3_r12 hA
  · exact z_tabOf hT hN z_s1_r13 z_s2_r13 z_s3_r13 hA
  · exact z_tabOf hT hN z_s1_r14 z_s2_r14 z_s3_r14 hA
  · exact z_tabOf hT hN z_s1_r15 z_s2_r15 z_s3_r15 hA
theorem z_mk {P : Nat → Nat → Prop} {N : Nat} (h : ∀ r, r < N → ∃ t, P r t) : ∃ rw : Nat → Nat, ∀ r, r < N → P r (rw r) := by
  have h9 : ∀ r, ∃ t, r < N → P r t := by
    intro r
    by_cases hr : r < N
    · obtain ⟨t, ht⟩ := h r hr
      exact ⟨t, fun _ => ht⟩
    · exact ⟨0, fun q => absurd q hr⟩
  exact ⟨fun r => Classical.choose (h9 r), fun r hr => Classical.choose_spec (h9 r) hr⟩
/-- one function that names all cells -/
theorem z_mkG (a0 a1 a2 a3 a4 a5 a6 a7 a8 a9 a10 : Nat) (rw9 : Nat → Nat) : ∃ G : Nat → Nat, a0 = G 0 ∧ a1 = G 1 ∧ a2 = G 2 ∧ a3 = G 3 ∧ a4 = G 4 ∧ a5 = G 5 ∧ a6 = G 6 ∧ a7 = G 7 ∧ a8 = G 8 ∧ a9 = G 9 ∧ a10 = G 10 ∧ ∀ r, rw9 r = G (20 + r) := by
  refine ⟨fun i => if i < 20 then [a0, a1, a2, a3, a4, a5, a6, a7, a8, a9, a10].getD i 0 else rw9 (i - 20), rfl, rfl, rfl, rfl, rfl, rfl, rfl, rfl, rfl, rfl, rfl, fun r => ?_⟩
  show _ = if 20 + r < 20 then _ else rw9 (20 + r - 20)
  rw [if_neg (by omega), Nat.add_sub_cancel_left]
theorem z_arr {args : Array Value} {s : State} {ty : FieldType} (h : (Cond.arrayClass ty).before args s = true) : ∃ c : ClassId, ArrOfT s c ty ∧ s.vm.findClass ("[" ++ ty.toString) = some c := by
  obtain ⟨c, k, comp, hfc, hk, hkind⟩ := Cond.arrayClass_spec h
  exact ⟨c, fun n z => ⟨fun q h9 => (by cases h9), k, hk, comp, hkind⟩, hfc⟩
set_option maxHeartbeats 4000000 in
/-- what holds at the law's entry -/
theorem z_world {s : State} {b : Addr} (hts0 : ∀ w ∈ lw_tbl, w.before #[Value.ref b] s = true) (hT : (Jvm.Cond.and given_1 narrow_1).before #[Value.ref b] s = true) : ∃ (D : va_G) (G : Nat → Nat), va_K D zCl (zTy G) s ∧ zG G (fun q => s.heap.size ≤ q) s s.heap := by
  have hts : ∀ w ∈ lw_all, w.before #[Value.ref b] s = true := fun w h => hts0 w (lw_all_tbl h)
  have hA : ∀ a : Nat, a < s.heap.size → ¬ (fun q : Nat => s.heap.size ≤ q) a := fun a h q => Nat.not_le.mpr h q
  obtain ⟨c0, i0, k0⟩ := u_known (C := RX0) (T := TX0) (N := 2) (n := 2) hts in_X0 (hts _ q21)
  obtain ⟨c1, i1, k1⟩ := u_known (C := RX1) (T := TX1) (N := 2) (n := 2) hts in_X1 (hts _ q538)
  obtain ⟨c2, i2, k2⟩ := u_known (C := RJ0) (T := TJ0) (N := 4) (n := 4) hts in_J0 (hts _ q52)
  obtain ⟨c3, i3, k3⟩ := u_known (C := RJ8) (T := TJ8) (N := 4) (n := 4) hts in_J8 (hts _ q246)
  obtain ⟨c4, i4, k4⟩ := u_known (C := RX2) (T := TX2) (N := 8) (n := 8) hts in_X2 (hts _ q130)
  obtain ⟨kI, hI1, hI2⟩ := z_arr (hts _ q531)
  obtain ⟨kC, hC1, hC2⟩ := z_arr (hts _ q36)
  obtain ⟨kB, hB1, hB2⟩ := z_arr (hts _ q37)
  obtain ⟨a3, e3, t3⟩ := z_tabOf (A := fun q => s.heap.size ≤ q) hT (by decide) z_s1_ROOM z_s2_ROOM z_s3_ROOM hA
  obtain ⟨a4, e4, t4⟩ := z_tabOf (A := fun q => s.heap.size ≤ q) hT (by decide) z_s1_CHECKS z_s2_CHECKS z_s3_CHECKS hA
  obtain ⟨a5, e5, t5⟩ := z_tabOf (A := fun q => s.heap.size ≤ q) hT (by decide) z_s1_FACTOR_SETS z_s2_FACTOR_SETS z_s3_FACTOR_SETS hA
  obtain ⟨a7, e7, t7⟩ := z_tabOf (A := fun q => s.heap.size ≤ q) hT (by decide) z_s1_LOG z_s2_LOG z_s3_LOG hA
  obtain ⟨a8, e8, t8⟩ := z_tabOf (A := fun q => s.heap.size ≤ q) hT (by decide) z_s1_ALOG z_s2_ALOG z_s3_ALOG hA
  obtain ⟨rw9, hrw⟩ := z_mk (z_rows (A := fun q => s.heap.size ≤ q) hT hA)
  obtain ⟨a6, e6, t6⟩ := va_Tof (ty := .array .int) (N := 16) (f := fun j => .ref (rw9 j)) (A := fun q => s.heap.size ≤ q) (tm := (.static "ErrorCorrection" "FACTORS" "[[I")) (by decide) (z_one 61 (by decide +kernel) hT) (va_eqt (z_one 63 (by decide +kernel) hT)) (fun j hj => (hrw j hj).1) hA
  obtain ⟨adK, adV, hSx, heK⟩ := vk_Sof (N := 1) (tm := fun _ => .string "SquareParity" 13) (len := [0]) (byt := [[]]) (A := fun q => s.heap.size ≤ q) (fun i hi => by obtain rfl : i = 0 := (by omega); decide) (fun _ _ => z_one 1228 (by decide +kernel) hT) (fun _ _ => z_one 1229 (by decide +kernel) hT) (fun _ _ => z_one 1230 (by decide +kernel) hT) (fun i hi => by obtain rfl : i = 0 := (by omega); exact z_one 1231 (by decide +kernel) hT) (fun i hi j hj => by obtain rfl : i = 0 := (by omega); exact absurd hj (Nat.not_lt_zero _)) (fun i j hi hj hij => absurd (show i = j by omega) hij) hA
  obtain ⟨s1, s2, s3, s4⟩ := hSx.1 0 (by decide)
  have heK0 := heK 0 (by decide)
  generalize adK 0 = a9 at s1 s2 s3 heK0
  generalize adV 0 = a10 at s3 s4
  obtain ⟨G, g0, g1, g2, g3, g4, g5, g6, g7, g8, g9, g10, g20⟩ := z_mkG kI kC kB a3 a4 a5 a6 a7 a8 a9 a10 rw9
  subst g0 g1 g2 g3 g4 g5 g6 g7 g8 g9 g10
  refine ⟨(fun k => if k = 0 then c0 else if k = 1 then c1 else if k = 2 then c2 else if k = 3 then c3 else c4, fun k => if k = 0 then i0 else if k = 1 then i1 else if k = 2 then i2 else if k = 3 then i3 else i4), G, ⟨?_, ?_⟩, ⟨?_, ?_⟩⟩
  · intro k q hq
    match k, hq with
    | 0, hq => cases hq; exact k0
    | 1, hq => cases hq; exact k1
    | 2, hq => cases hq; exact k2
    | 3, hq => cases hq; exact k3
    | 4, hq => cases hq; exact k4
    | k + 5, hq => simp [zCl] at hq
  · intro k q hq
    match k, hq with
    | 0, hq => cases hq; exact ⟨hI1, hI2⟩
    | 1, hq => cases hq; exact ⟨hC1, hC2⟩
    | 2, hq => cases hq; exact ⟨hB1, hB2⟩
    | k + 3, hq => simp [zTy] at hq
  · refine ⟨va_Zof (hts0 _ q75) (hts _ q4) (va_eqi (z_one 20 (by decide +kernel) hT)) hA, va_Zqof (hts0 _ q65) (hts _ q5) (z_one 19 (by decide +kernel) hT) hA, va_Zref (hts0 _ q54) (hts _ q2) e3 hA, t3, va_Zref (hts0 _ q132) (hts _ q2) e4 hA, t4, va_Zref (hts0 _ q371) (hts _ q8) e5 hA, t5, va_Zref (hts0 _ q435) (hts _ q8) e7 hA, t7, va_Zref (hts0 _ q433) (hts _ q8) e8 hA, t8, va_Zref (hts0 _ q374) (hts _ q8) e6 hA, ?_, fun r hr => ?_, s1, s2, s3, ?_⟩
    · rw [show (fun j => Value.ref (G (20 + j))) = fun j => Value.ref (rw9 j) from funext fun j => by rw [g20 j]]
      exact t6
    · rw [← g20 r]
      exact (hrw r hr).2
    · obtain ⟨cell, y1, y2, y3, y4, y5, y6, y7⟩ := s4
      exact ⟨cell, y1, y2, y3, y4, y5, fun j hj => absurd hj (Nat.not_lt_zero j), y7⟩
  · exact ⟨vk_R.of (hts0 _ q28) heK0, va_Fw.of (hts0 _ q378) (hts0 _ q377) (hts0 _ q382) (hts0 _ q381) (hts0 _ q379), va_Fw.of (hts0 _ q395) (hts0 _ q394) (hts0 _ q399) (hts0 _ q397) (hts0 _ q379), va_Nw.of rfl (hts0 _ q312)⟩
end
section
/-! THE CLAIM OUT OF ONE WALK OF THE LAW'S BODY. Your part is whole_start (and what it stands on); all else here is the same for every law, but numbers. -/
def R_law : String := "SquareParityLaw"
def lw_P (b : Addr) (xs : List Int32) (args : Array Value) (s : State) : Prop := args = #[.ref b] ∧ s.IntsAt b xs ∧ xs.length ≤ 288 ∧ (Jvm.Cond.and given_1 narrow_1).before args s = true
def lw_Q (_ : Array Value) (s : State) (o : Outcome) (t : State) : Prop := o = .returned (some (.int 1)) ∧ Framed s o t [] 1200096 5501386
def lw_Z (below : List Frame) (a : Array Value) (s : State) : State → Prop := fun t => ∃ o, t.status = .running ∧ Ended t below o ∧ lw_Q a s o t
/-- the law's own end, with 1 on the stack, nothing written that was there before, its room as the claim has it -/
theorem lw_ret {p : Program} {l : Launch} {e : Env} {s : State} {m : MethodId} {below : List Frame} {meth : Method} {c : Code} {b : Nat} (hx : p.tables.exec = Jvm.exec) (hb : c.code = code) (hr : meth.sig.returnType = ret) (hlocks : meth.locks = false) {pc : Nat} {H : Heap} {ls : Array Slot} (hdg : decode code pc = .ok (.ireturn, 1)) : W p l e room_1 s m #[Value.ref b] below meth c H [] 1200096 5501386 (lw_Z below #[Value.ref b] s) (F0 m pc ls [.int 1]) := by
  intro T hT X
  obtain ⟨fs, hret, hrun, hended, hW, hframe⟩ := X.leave (v := some (.int 1)) (hlocks := hlocks) (fun h => by rw [hr] at h; cases h)
  have hmeth' : T.vm.method? m = some meth := X.method'
  refine ⟨T.setFrames fs, ?_, .returned (some (.int 1)), hrun, hended, rfl, ⟨_, rfl⟩, hW, hframe⟩
  jvm_step X.here [X.here.top, hx, hb, hdg, hmeth', hr, ret, narrow_b1]
  (try refine ⟨rfl, ?_⟩); (try refine ⟨rfl, ?_⟩)
  first | (intro acts; rw [hret _ acts rfl rfl rfl]) | rw [hret _ _ rfl rfl rfl]
  exact Steps.refl _
/-- what holds at the law's entry: the machine, the code, the tables' words (any of lw_tbl by 'hts w (by decide +kernel)'), the script of L ints xs at the cell b, what the Statement gives of the start (any of its parts by flat_of_before) -/
def lw_At (p : Program) (s : State) (m : MethodId) (meth : Method) (c : Code) (b L : Nat) (xs : Nat → Int32) : Prop :=
  p.tables.exec = Jvm.exec ∧ c.code = code ∧ meth.sig.returnType = ret ∧ c.maxLocals = 4 ∧ s.vm.findClass R_law = some m.cls ∧ (∀ w ∈ lw_tbl, w.before #[Value.ref b] s = true) ∧ va_X b L xs s s.heap ∧ b < s.heap.size ∧ meth.locks = false ∧ (Jvm.Cond.and given_1 narrow_1).before #[Value.ref b] s = true
theorem z_len_t {L i : Nat} (hL : L < 2 ^ 20) (hi : i < 2 ^ 20) (h : L < i + 6) : nI L - nI 6 < nI i := by
  rw [Int32.lt_iff_toInt_lt, pk_sub_toInt (by omega) (by omega), nI_toInt (by omega)]
  omega
theorem z_len_f {L i : Nat} (hL : L < 2 ^ 20) (h : i + 6 ≤ L) : ¬ nI L - nI 6 < nI i := by
  rw [Int32.lt_iff_toInt_lt, pk_sub_toInt (by omega) (by omega), nI_toInt (by omega)]
  omega
theorem z_sld {p : Program} {l : Launch} {e : Env} {R : Room} {s : State} {m : MethodId} {args : Array Value} {below : List Frame} {meth : Method} {c : Code} {H : Heap} {locs : List Loc} {cells slots : Nat} {Q : State → Prop} {cc : ByteArray} {pc : Nat} {ls : Array Slot} {rest : List Value} {A : Nat → Prop} {H0 : Heap} (hx : p.tables.exec = Jvm.exec) (hb : c.code = cc) {b L j : Nat} {xs : Nat → Int32} (hX : va_X b L xs s H0) (hbl : b < H0.size) (hbA : ¬ A b) (hS : va_S A H0 H locs) (hj : j < L) (hL : L < 2 ^ 31) (hdg : decode cc pc = .ok (.iaload, 1))
    (kk : W p l e R s m args below meth c H locs cells slots Q (F0 m (pc + 1) ls (.int (xs j) :: rest))) : W p l e R s m args below meth c H locs cells slots Q (F0 m pc ls (.int (nI j) :: .ref b :: rest)) :=
  va_sld hx hb hX hbl hbA hS (vp_in_nI hj hL) hdg (by rw [nI_clamp (by omega)]; exact kk)
theorem z_chu {t : Nat → Nat} {f : Nat → Int32} {i v : Nat} (h : zCh t 62 f) (hv : v < 256) : zCh (va_up t i v) 62 (upd f i (nI v)) := by
  intro j hj
  by_cases e : j = i
  · rw [e, va_up_self, pk_us]; exact ⟨hv, rfl⟩
  · rw [va_up_ne _ _ e, pk_un e]; exact h j hj
theorem z_upb {t : Nat → Nat} {i v : Nat} (h : ∀ j, t j < 256) (hv : v < 256) : ∀ j, va_up t i v j < 256 := by
  intro j
  by_cases e : j = i
  · rw [e, va_up_self]; exact hv
  · rw [va_up_ne _ _ e]; exact h j
set_option maxHeartbeats 4000000 in
set_option maxRecDepth 100000 in
/-- the law's loop, once a symbol is written -/
theorem law_B {p : Program} {l : Launch} {e : Env} {s : State} {m : MethodId} {below : List Frame} {meth : Method} {c : Code} {D : va_G} {G : Nat → Nat} {A : Nat → Prop} {b L x Lx y Ly : Nat} {xs : Nat → Int32} (hL : L ≤ 288) (C0 : lw_At p s m meth c b L xs) (hAe : A = fun q => s.heap.size ≤ q) (hK : va_K D zCl (zTy G) s) (hG : zG G A s s.heap) (k8 : Nat) {H : Heap} {locs : List Loc} {ls : Array Slot} (h0 : ∃ (i : Nat) (S : Nat) (V : Nat) (n : Nat) (Wy : Nat) (xa : Nat → Int32) (ma : Nat → Int32) (f : Nat → Int32) (wf : Nat → Int32) (lt : Nat → Nat) (tt : Nat → Nat), (i + k8 = L / 6) ∧ (0 < n ∧ n < 2 ^ 30) ∧ (∀ j, lt j < 256) ∧ (zCh lt 62 xa) ∧ (zCh lt 62 ma) ∧ (sb_Lat tt n f) ∧ (∀ j, j < n → wf j = nI (tt j)) ∧ va_P D zCl [(x, .inr (0, [.ref Lx, .ref S])), (Lx, .inl (G 1, 62, .inl xa)), (S, .inr (2, [.ref V, .int (nI 0), .int (nI 0), .int (nI 0)])), (V, .inl (G 2, n, .inl f)), (y, .inr (1, [.ref Ly, .ref Wy])), (Ly, .inl (G 0, 62, .inl ma)), (Wy, .inl (G 0, n, .inl wf))] H ∧ va_D A [(x, .inr (0, [.ref Lx, .ref S])), (Lx, .inl (G 1, 62, .inl xa)), (S, .inr (2, [.ref V, .int (nI 0), .int (nI 0), .int (nI 0)])), (V, .inl (G 2, n, .inl f)), (y, .inr (1, [.ref Ly, .ref Wy])), (Ly, .inl (G 0, 62, .inl ma)), (Wy, .inl (G 0, n, .inl wf))] ∧ va_S A s.heap H locs ∧ lv_has ls 4 [(3, .int (nI (6 * i))), (0, .ref b), (1, .ref x), (2, .ref y)]) :
    W p l e room_1 s m #[Value.ref b] below meth c H locs (10 + (L / 6 - k8) * 60) (300 + (L / 6 - k8) * 2200) (lw_Z below #[Value.ref b] s) (F0 m 18 ls []) := by
  obtain ⟨hx, hb, hr, hml, hown, hts0, hX, hbl, hlocks, hgv⟩ := id C0
  have hb : c.code = cL_law := hb
  have hts : ∀ w ∈ lw_all, w.before #[Value.ref b] s = true := fun w h => hts0 w (lw_all_tbl h)
  have hA : ∀ q : Nat, s.heap.size ≤ q → A q := fun q h => by rw [hAe]; exact h
  have hAf : ∀ q : Nat, A q → s.heap.size ≤ q := fun q h => by rw [hAe] at h; exact h
  have hbA : ¬ A b := fun h => absurd (hAf b h) (Nat.not_le.mpr hbl)
  refine z_loop (cf := fun k9 => 10 + (L / 6 - k9) * 60) (sf := fun k9 => 300 + (L / 6 - k9) * 2200) (I := fun k9 H locs ls => ∃ (i : Nat) (S : Nat) (V : Nat) (n : Nat) (Wy : Nat) (xa : Nat → Int32) (ma : Nat → Int32) (f : Nat → Int32) (wf : Nat → Int32) (lt : Nat → Nat) (tt : Nat → Nat), (i + k9 = L / 6) ∧ (0 < n ∧ n < 2 ^ 30) ∧ (∀ j, lt j < 256) ∧ (zCh lt 62 xa) ∧ (zCh lt 62 ma) ∧ (sb_Lat tt n f) ∧ (∀ j, j < n → wf j = nI (tt j)) ∧ va_P D zCl [(x, .inr (0, [.ref Lx, .ref S])), (Lx, .inl (G 1, 62, .inl xa)), (S, .inr (2, [.ref V, .int (nI 0), .int (nI 0), .int (nI 0)])), (V, .inl (G 2, n, .inl f)), (y, .inr (1, [.ref Ly, .ref Wy])), (Ly, .inl (G 0, 62, .inl ma)), (Wy, .inl (G 0, n, .inl wf))] H ∧ va_D A [(x, .inr (0, [.ref Lx, .ref S])), (Lx, .inl (G 1, 62, .inl xa)), (S, .inr (2, [.ref V, .int (nI 0), .int (nI 0), .int (nI 0)])), (V, .inl (G 2, n, .inl f)), (y, .inr (1, [.ref Ly, .ref Wy])), (Ly, .inl (G 0, 62, .inl ma)), (Wy, .inl (G 0, n, .inl wf))] ∧ va_S A s.heap H locs ∧ lv_has ls 4 [(3, .int (nI (6 * i))), (0, .ref b), (1, .ref x), (2, .ref y)]) (N := k8) h0 ?_ ?_
  · intro H locs ls hI
    obtain ⟨i, S, V, n, Wy, xa, ma, f, wf, lt, tt, hi, hn, hlt, hxa, hma, htt, hwf, hP, hD, hS, hl⟩ := hI
    obtain rfl : i = L / 6 := by omega
    refine lv_iload_n hx hb dL_law_18 rfl (lv_at hl 0 rfl) ?_
    refine lv_aload_n hx hb dL_law_19 rfl (lv_at hl 1 rfl) ?_
    refine va_slen hx hb hX hbl hbA hS dL_law_20 ?_
    refine lv_bipush (v := nI 6) hx hb dL_law_21 (by decide) ?_
    refine lv_isub hx hb dL_law_23 ?_
    refine lv_icmp_gt (tgt := 178) hx hb dL_law_24 (by decide) (fun _ => ?_) (fun c9 => absurd (z_len_t (by omega) (by omega) (by omega)) c9)
    refine lv_iconst (v := 1) hx hb dL_law_178 (by decide) ?_
    refine va_forget (fun q hq => hAf _ (hS.2.2 q hq)) ?_
    refine W.widen (k := 1200096) (n := 5501386) (show 10 + (L / 6 - 0) * 60 ≤ 1200096 by omega) (show 300 + (L / 6 - 0) * 2200 ≤ 5501386 by omega) ?_
    exact lw_ret hx hb hr hlocks dL_law_179
  · intro k9 ih H locs ls hI
    obtain ⟨i, S, V, n, Wy, xa, ma, f, wf, lt, tt, hi, hn, hlt, hxa, hma, htt, hwf, hP, hD, hS, hl⟩ := hI
    have hi6 : 6 * i + 6 ≤ L := by omega
    have hT : k9 + 1 ≤ L / 6 := by omega
    have hT2 : L / 6 ≤ 48 := by omega
    refine lv_iload_n hx hb dL_law_18 rfl (lv_at hl 0 rfl) ?_
    refine lv_aload_n hx hb dL_law_19 rfl (lv_at hl 1 rfl) ?_
    refine va_slen hx hb hX hbl hbA hS dL_law_20 ?_
    refine lv_bipush (v := nI 6) hx hb dL_law_21 (by decide) ?_
    refine lv_isub hx hb dL_law_23 ?_
    refine lv_icmp_gt (tgt := 178) hx hb dL_law_24 (by decide) (fun c9 => absurd c9 (z_len_f (by omega) (by omega))) (fun _ => ?_)
    refine lv_aload_n hx hb dL_law_27 rfl (lv_at hl 1 rfl) ?_
    refine lv_iload_n hx hb dL_law_28 rfl (lv_at hl 0 rfl) ?_
    refine z_sld (j := 6 * i) hx hb hX hbl hbA hS (by omega) (by omega) dL_law_29 ?_
    refine lv_iconst (v := nI 3) hx hb dL_law_30 (by decide) ?_
    refine z_iandK (M := (nI 3)) hx hb 2 (by decide) dL_law_31 ?_
    obtain ⟨c0, hc0, ec0⟩ : ∃ c0, c0 < 4 ∧ c0 = (xs (6 * i)).toBitVec.toNat % 2 ^ 2 := ⟨_, Nat.mod_lt _ (by decide), rfl⟩
    rw [← ec0]
    rcases (show c0 = 0 ∨ c0 = 1 ∨ c0 = 2 ∨ c0 = 3 by omega) with rfl | rfl | rfl | rfl
    · refine lv_tableIn (off := 32) (tgt := 64) hx hb dL_law_32 (by decide) (by decide) (by decide) (by decide) ?_
      have hv1 := zlo_lt (xs (6 * i + 2))
      refine lv_aload_n hx hb dL_law_64 rfl (lv_at hl 2 rfl) ?_
      refine lv_aload_n hx hb dL_law_65 rfl (lv_at hl 1 rfl) ?_
      refine lv_iload_n hx hb dL_law_66 rfl (lv_at hl 0 rfl) ?_
      refine lv_iconst (v := nI 1) hx hb dL_law_67 (by decide) ?_
      refine z_iadd hx hb dL_law_68 ?_
      refine z_sld (j := 6 * i + 1) hx hb hX hbl hbA hS (by omega) (by omega) dL_law_69 ?_
      refine lv_aload_n hx hb dL_law_70 rfl (lv_at hl 1 rfl) ?_
      refine lv_iload_n hx hb dL_law_71 rfl (lv_at hl 0 rfl) ?_
      refine lv_iconst (v := nI 2) hx hb dL_law_72 (by decide) ?_
      refine z_iadd hx hb dL_law_73 ?_
      refine z_sld (j := 6 * i + 2) hx hb hX hbl hbA hS (by omega) (by omega) dL_law_74 ?_
      refine z_callv (wr := [(S, .inr (2, [.ref V, .int (nI 0), .int (nI 0), .int (nI 0)])), (V, .inl (G 2, n, .inl f)), (y, .inr (1, [.ref Ly, .ref Wy])), (Ly, .inl (G 0, 62, .inl ma)), (Wy, .inl (G 0, n, .inl wf))]) (va_runV (As := [.int (xs (6 * i + 1)), .int (xs (6 * i + 2))]) (rest := []) ⟨hx, hb, hml, hown, hts⟩ (m_X0_letter l D G (xs (6 * i + 1)) (xs (6 * i + 2)) H.size) (cwV 2 hts (lw_V q38 q39 q40 q2 q41) rfl rfl rfl (by decide +kernel) ⟨Nat.le_of_ble_eq_true rfl, Nat.le_of_ble_eq_true rfl⟩) (z_preV (z_rc hK hP 0 0 rfl rfl) (z_preS hK hP hD hG hS hA [0, 1] rfl (by decide))) rfl rfl hl.1 rfl (lv_room (Nat.le_of_ble_eq_true rfl)) dL_law_75 ⟨show 10 + (L / 6 - (k9 + 1)) * 60 + 0 ≤ 1200096 by omega, show 300 + (L / 6 - (k9 + 1)) * 2200 + 0 ≤ 5501386 by omega⟩) hP hD hS hA [0, 1] [2, 3, 4, 5, 6] rfl rfl (by decide) (by decide) (fun u H locs hw hP hD hS => ?_)
      have hP : va_P D zCl [(S, .inr (2, [.ref V, .int (nI 0), .int (nI 0), .int (nI 0)])), (V, .inl (G 2, n, .inl f)), (y, .inr (1, [.ref Ly, .ref Wy])), (Ly, .inl (G 0, 62, .inl ma)), (Wy, .inl (G 0, n, .inl wf)), (x, .inr (0, [.ref Lx, .ref S])), (Lx, .inl (G 1, 62, .inl (upd xa (zix (xs (6 * i + 1)) 62) (nI (zlo (xs (6 * i + 2)))))))] H := hP
      have hD : va_D A [(S, .inr (2, [.ref V, .int (nI 0), .int (nI 0), .int (nI 0)])), (V, .inl (G 2, n, .inl f)), (y, .inr (1, [.ref Ly, .ref Wy])), (Ly, .inl (G 0, 62, .inl ma)), (Wy, .inl (G 0, n, .inl wf)), (x, .inr (0, [.ref Lx, .ref S])), (Lx, .inl (G 1, 62, .inl (upd xa (zix (xs (6 * i + 1)) 62) (nI (zlo (xs (6 * i + 2)))))))] := hD
      refine lv_aload_n hx hb dL_law_78 rfl (lv_at hl 3 rfl) ?_
      refine lv_aload_n hx hb dL_law_79 rfl (lv_at hl 1 rfl) ?_
      refine lv_iload_n hx hb dL_law_80 rfl (lv_at hl 0 rfl) ?_
      refine lv_iconst (v := nI 1) hx hb dL_law_81 (by decide) ?_
      refine z_iadd hx hb dL_law_82 ?_
      refine z_sld (j := 6 * i + 1) hx hb hX hbl hbA hS (by omega) (by omega) dL_law_83 ?_
      refine lv_aload_n hx hb dL_law_84 rfl (lv_at hl 1 rfl) ?_
      refine lv_iload_n hx hb dL_law_85 rfl (lv_at hl 0 rfl) ?_
      refine lv_iconst (v := nI 2) hx hb dL_law_86 (by decide) ?_
      refine z_iadd hx hb dL_law_87 ?_
      refine z_sld (j := 6 * i + 2) hx hb hX hbl hbA hS (by omega) (by omega) dL_law_88 ?_
      refine z_callv (wr := [(S, .inr (2, [.ref V, .int (nI 0), .int (nI 0), .int (nI 0)])), (V, .inl (G 2, n, .inl f)), (Wy, .inl (G 0, n, .inl wf)), (x, .inr (0, [.ref Lx, .ref S])), (Lx, .inl (G 1, 62, .inl (upd xa (zix (xs (6 * i + 1)) 62) (nI (zlo (xs (6 * i + 2)))))))]) (va_runV (As := [.int (xs (6 * i + 1)), .int (xs (6 * i + 2))]) (rest := []) ⟨hx, hb, hml, hown, hts⟩ (m_X1_letter l D G (xs (6 * i + 1)) (xs (6 * i + 2)) H.size) (cwV 2 hts (lw_V q550 q551 q552 q3 q553) rfl rfl rfl (by decide +kernel) ⟨Nat.le_of_ble_eq_true rfl, Nat.le_of_ble_eq_true rfl⟩) (z_preV (z_rc hK hP 2 1 rfl rfl) (z_preS hK hP hD hG hS hA [2, 3] rfl (by decide))) rfl rfl hl.1 rfl (lv_room (Nat.le_of_ble_eq_true rfl)) dL_law_89 ⟨show 10 + (L / 6 - (k9 + 1)) * 60 + 0 + 0 ≤ 1200096 by omega, show 300 + (L / 6 - (k9 + 1)) * 2200 + 0 + 0 ≤ 5501386 by omega⟩) hP hD hS hA [2, 3] [0, 1, 4, 5, 6] rfl rfl (by decide) (by decide) (fun u H locs hw hP hD hS => ?_)
      have hP : va_P D zCl [(S, .inr (2, [.ref V, .int (nI 0), .int (nI 0), .int (nI 0)])), (V, .inl (G 2, n, .inl f)), (Wy, .inl (G 0, n, .inl wf)), (x, .inr (0, [.ref Lx, .ref S])), (Lx, .inl (G 1, 62, .inl (upd xa (zix (xs (6 * i + 1)) 62) (nI (zlo (xs (6 * i + 2))))))), (y, .inr (1, [.ref Ly, .ref Wy])), (Ly, .inl (G 0, 62, .inl (upd ma (zix (xs (6 * i + 1)) 62) (nI (zlo (xs (6 * i + 2)))))))] H := hP
      have hD : va_D A [(S, .inr (2, [.ref V, .int (nI 0), .int (nI 0), .int (nI 0)])), (V, .inl (G 2, n, .inl f)), (Wy, .inl (G 0, n, .inl wf)), (x, .inr (0, [.ref Lx, .ref S])), (Lx, .inl (G 1, 62, .inl (upd xa (zix (xs (6 * i + 1)) 62) (nI (zlo (xs (6 * i + 2))))))), (y, .inr (1, [.ref Ly, .ref Wy])), (Ly, .inl (G 0, 62, .inl (upd ma (zix (xs (6 * i + 1)) 62) (nI (zlo (xs (6 * i + 2)))))))] := hD
      refine lv_goto (tgt := 172) hx hb dL_law_92 (by decide) ?_
      have hP := hP.sub (ws' := [(x, .inr (0, [.ref Lx, .ref S])), (Lx, .inl (G 1, 62, .inl (upd xa (zix (xs (6 * i + 1)) 62) (nI (zlo (xs (6 * i + 2))))))), (S, .inr (2, [.ref V, .int (nI 0), .int (nI 0), .int (nI 0)])), (V, .inl (G 2, n, .inl f)), (y, .inr (1, [.ref Ly, .ref Wy])), (Ly, .inl (G 0, 62, .inl (upd ma (zix (xs (6 * i + 1)) 62) (nI (zlo (xs (6 * i + 2))))))), (Wy, .inl (G 0, n, .inl wf))]) [3, 4, 0, 1, 5, 6, 2] rfl
      have hD := hD.sub (ws' := [(x, .inr (0, [.ref Lx, .ref S])), (Lx, .inl (G 1, 62, .inl (upd xa (zix (xs (6 * i + 1)) 62) (nI (zlo (xs (6 * i + 2))))))), (S, .inr (2, [.ref V, .int (nI 0), .int (nI 0), .int (nI 0)])), (V, .inl (G 2, n, .inl f)), (y, .inr (1, [.ref Ly, .ref Wy])), (Ly, .inl (G 0, 62, .inl (upd ma (zix (xs (6 * i + 1)) 62) (nI (zlo (xs (6 * i + 2))))))), (Wy, .inl (G 0, n, .inl wf))]) [3, 4, 0, 1, 5, 6, 2] (by decide) rfl
      refine W.widen (k := 10 + (L / 6 - k9) * 60) (n := 300 + (L / 6 - k9) * 2200) (show 10 + (L / 6 - (k9 + 1)) * 60 + 0 + 0 ≤ 10 + (L / 6 - k9) * 60 by omega) (show 300 + (L / 6 - (k9 + 1)) * 2200 + 0 + 0 ≤ 300 + (L / 6 - k9) * 2200 by omega) ?_
      refine lv_iinc (v := (nI (6 * (i + 1)))) (lv' := [(3, .int (nI (6 * (i + 1)))), (0, .ref b), (1, .ref x), (2, .ref y)]) hx hb dL_law_172 hl (k := 0) rfl ((nI_add (6 * i) 6).trans (congrArg nI (by omega))) (by decide) rfl (fun ls hl => ?_)
      refine lv_goto (tgt := 18) hx hb dL_law_175 (by decide) ?_
      exact ih H locs ls ⟨i + 1, S, V, n, Wy, _, _, f, wf, va_up lt (zix (xs (6 * i + 1)) 62) (zlo (xs (6 * i + 2))), tt, by omega, hn, z_upb hlt hv1, z_chu hxa hv1, z_chu hma hv1, htt, hwf, hP, hD, hS, lv_sub hl [0, 1, 2, 3] rfl⟩
    · refine lv_tableIn (off := 63) (tgt := 95) hx hb dL_law_32 (by decide) (by decide) (by decide) (by decide) ?_
      refine lv_aload_n hx hb dL_law_95 rfl (lv_at hl 2 rfl) ?_
      refine lv_aload_n hx hb dL_law_96 rfl (lv_at hl 1 rfl) ?_
      refine lv_iload_n hx hb dL_law_97 rfl (lv_at hl 0 rfl) ?_
      refine lv_iconst (v := nI 1) hx hb dL_law_98 (by decide) ?_
      refine z_iadd hx hb dL_law_99 ?_
      refine z_sld (j := 6 * i + 1) hx hb hX hbl hbA hS (by omega) (by omega) dL_law_100 ?_
      refine lv_aload_n hx hb dL_law_101 rfl (lv_at hl 1 rfl) ?_
      refine lv_iload_n hx hb dL_law_102 rfl (lv_at hl 0 rfl) ?_
      refine lv_iconst (v := nI 2) hx hb dL_law_103 (by decide) ?_
      refine z_iadd hx hb dL_law_104 ?_
      refine z_sld (j := 6 * i + 2) hx hb hX hbl hbA hS (by omega) (by omega) dL_law_105 ?_
      refine z_callv (wr := [(S, .inr (2, [.ref V, .int (nI 0), .int (nI 0), .int (nI 0)])), (V, .inl (G 2, n, .inl f)), (y, .inr (1, [.ref Ly, .ref Wy])), (Ly, .inl (G 0, 62, .inl ma)), (Wy, .inl (G 0, n, .inl wf))]) (va_runV (As := [.int (xs (6 * i + 1)), .int (xs (6 * i + 2))]) (rest := []) ⟨hx, hb, hml, hown, hts⟩ (m_X0_fill l D G (xs (6 * i + 1)) (xs (6 * i + 2)) H.size) (cwV 2 hts (lw_V q43 q44 q45 q2 q46) rfl rfl rfl (by decide +kernel) ⟨Nat.le_of_ble_eq_true rfl, Nat.le_of_ble_eq_true rfl⟩) (z_preV (z_rc hK hP 0 0 rfl rfl) (z_preS hK hP hD hG hS hA [0, 1] rfl (by decide))) rfl rfl hl.1 rfl (lv_room (Nat.le_of_ble_eq_true rfl)) dL_law_106 ⟨show 10 + (L / 6 - (k9 + 1)) * 60 + 0 ≤ 1200096 by omega, show 300 + (L / 6 - (k9 + 1)) * 2200 + 0 ≤ 5501386 by omega⟩) hP hD hS hA [0, 1] [2, 3, 4, 5, 6] rfl rfl (by decide) (by decide) (fun fx H locs hw hP hD hS => ?_)
      have hfx : ∀ j, j < 62 → fx j = nI (zfl (xs (6 * i + 1)) (xs (6 * i + 2)) j) := hw
      have hP : va_P D zCl [(S, .inr (2, [.ref V, .int (nI 0), .int (nI 0), .int (nI 0)])), (V, .inl (G 2, n, .inl f)), (y, .inr (1, [.ref Ly, .ref Wy])), (Ly, .inl (G 0, 62, .inl ma)), (Wy, .inl (G 0, n, .inl wf)), (x, .inr (0, [.ref Lx, .ref S])), (Lx, .inl (G 1, 62, .inl fx))] H := hP
      have hD : va_D A [(S, .inr (2, [.ref V, .int (nI 0), .int (nI 0), .int (nI 0)])), (V, .inl (G 2, n, .inl f)), (y, .inr (1, [.ref Ly, .ref Wy])), (Ly, .inl (G 0, 62, .inl ma)), (Wy, .inl (G 0, n, .inl wf)), (x, .inr (0, [.ref Lx, .ref S])), (Lx, .inl (G 1, 62, .inl fx))] := hD
      refine lv_aload_n hx hb dL_law_109 rfl (lv_at hl 3 rfl) ?_
      refine lv_aload_n hx hb dL_law_110 rfl (lv_at hl 1 rfl) ?_
      refine lv_iload_n hx hb dL_law_111 rfl (lv_at hl 0 rfl) ?_
      refine lv_iconst (v := nI 1) hx hb dL_law_112 (by decide) ?_
      refine z_iadd hx hb dL_law_113 ?_
      refine z_sld (j := 6 * i + 1) hx hb hX hbl hbA hS (by omega) (by omega) dL_law_114 ?_
      refine lv_aload_n hx hb dL_law_115 rfl (lv_at hl 1 rfl) ?_
      refine lv_iload_n hx hb dL_law_116 rfl (lv_at hl 0 rfl) ?_
      refine lv_iconst (v := nI 2) hx hb dL_law_117 (by decide) ?_
      refine z_iadd hx hb dL_law_118 ?_
      refine z_sld (j := 6 * i + 2) hx hb hX hbl hbA hS (by omega) (by omega) dL_law_119 ?_
      refine z_callv (wr := [(S, .inr (2, [.ref V, .int (nI 0), .int (nI 0), .int (nI 0)])), (V, .inl (G 2, n, .inl f)), (Wy, .inl (G 0, n, .inl wf)), (x, .inr (0, [.ref Lx, .ref S])), (Lx, .inl (G 1, 62, .inl fx))]) (va_runV (As := [.int (xs (6 * i + 1)), .int (xs (6 * i + 2))]) (rest := []) ⟨hx, hb, hml, hown, hts⟩ (m_X1_fill l D G (xs (6 * i + 1)) (xs (6 * i + 2)) H.size) (cwV 2 hts (lw_V q555 q556 q557 q3 q558) rfl rfl rfl (by decide +kernel) ⟨Nat.le_of_ble_eq_true rfl, Nat.le_of_ble_eq_true rfl⟩) (z_preV (z_rc hK hP 2 1 rfl rfl) (z_preS hK hP hD hG hS hA [2, 3] rfl (by decide))) rfl rfl hl.1 rfl (lv_room (Nat.le_of_ble_eq_true rfl)) dL_law_120 ⟨show 10 + (L / 6 - (k9 + 1)) * 60 + 0 + 0 ≤ 1200096 by omega, show 300 + (L / 6 - (k9 + 1)) * 2200 + 0 + 0 ≤ 5501386 by omega⟩) hP hD hS hA [2, 3] [0, 1, 4, 5, 6] rfl rfl (by decide) (by decide) (fun fm H locs hw hP hD hS => ?_)
      have hfm : ∀ j, j < 62 → fm j = nI (zfl (xs (6 * i + 1)) (xs (6 * i + 2)) j) := hw
      have hP : va_P D zCl [(S, .inr (2, [.ref V, .int (nI 0), .int (nI 0), .int (nI 0)])), (V, .inl (G 2, n, .inl f)), (Wy, .inl (G 0, n, .inl wf)), (x, .inr (0, [.ref Lx, .ref S])), (Lx, .inl (G 1, 62, .inl fx)), (y, .inr (1, [.ref Ly, .ref Wy])), (Ly, .inl (G 0, 62, .inl fm))] H := hP
      have hD : va_D A [(S, .inr (2, [.ref V, .int (nI 0), .int (nI 0), .int (nI 0)])), (V, .inl (G 2, n, .inl f)), (Wy, .inl (G 0, n, .inl wf)), (x, .inr (0, [.ref Lx, .ref S])), (Lx, .inl (G 1, 62, .inl fx)), (y, .inr (1, [.ref Ly, .ref Wy])), (Ly, .inl (G 0, 62, .inl fm))] := hD
      refine lv_goto (tgt := 172) hx hb dL_law_123 (by decide) ?_
      have hP := hP.sub (ws' := [(x, .inr (0, [.ref Lx, .ref S])), (Lx, .inl (G 1, 62, .inl fx)), (S, .inr (2, [.ref V, .int (nI 0), .int (nI 0), .int (nI 0)])), (V, .inl (G 2, n, .inl f)), (y, .inr (1, [.ref Ly, .ref Wy])), (Ly, .inl (G 0, 62, .inl fm)), (Wy, .inl (G 0, n, .inl wf))]) [3, 4, 0, 1, 5, 6, 2] rfl
      have hD := hD.sub (ws' := [(x, .inr (0, [.ref Lx, .ref S])), (Lx, .inl (G 1, 62, .inl fx)), (S, .inr (2, [.ref V, .int (nI 0), .int (nI 0), .int (nI 0)])), (V, .inl (G 2, n, .inl f)), (y, .inr (1, [.ref Ly, .ref Wy])), (Ly, .inl (G 0, 62, .inl fm)), (Wy, .inl (G 0, n, .inl wf))]) [3, 4, 0, 1, 5, 6, 2] (by decide) rfl
      refine W.widen (k := 10 + (L / 6 - k9) * 60) (n := 300 + (L / 6 - k9) * 2200) (show 10 + (L / 6 - (k9 + 1)) * 60 + 0 + 0 ≤ 10 + (L / 6 - k9) * 60 by omega) (show 300 + (L / 6 - (k9 + 1)) * 2200 + 0 + 0 ≤ 300 + (L / 6 - k9) * 2200 by omega) ?_
      refine lv_iinc (v := (nI (6 * (i + 1)))) (lv' := [(3, .int (nI (6 * (i + 1)))), (0, .ref b), (1, .ref x), (2, .ref y)]) hx hb dL_law_172 hl (k := 0) rfl ((nI_add (6 * i) 6).trans (congrArg nI (by omega))) (by decide) rfl (fun ls hl => ?_)
      refine lv_goto (tgt := 18) hx hb dL_law_175 (by decide) ?_
      exact ih H locs ls ⟨i + 1, S, V, n, Wy, fx, fm, f, wf, zfl (xs (6 * i + 1)) (xs (6 * i + 2)), tt, by omega, hn, fun j => zlo_lt _, fun j hj => ⟨zlo_lt _, hfx j hj⟩, fun j hj => ⟨zlo_lt _, hfm j hj⟩, htt, hwf, hP, hD, hS, lv_sub hl [0, 1, 2, 3] rfl⟩
    · refine lv_tableIn (off := 94) (tgt := 126) hx hb dL_law_32 (by decide) (by decide) (by decide) (by decide) ?_
      obtain ⟨k, hk, ek⟩ : ∃ k, k < 10 ∧ zix (xs (6 * i + 1)) 10 = k := ⟨_, zix_lt _ (by decide), rfl⟩
      have hro := zroom_in k hk
      have hch := zch_in k hk
      refine lv_aload_n hx hb dL_law_126 rfl (lv_at hl 2 rfl) ?_
      refine lv_aload_n hx hb dL_law_127 rfl (lv_at hl 1 rfl) ?_
      refine lv_iload_n hx hb dL_law_128 rfl (lv_at hl 0 rfl) ?_
      refine lv_iconst (v := nI 1) hx hb dL_law_129 (by decide) ?_
      refine z_iadd hx hb dL_law_130 ?_
      refine z_sld (j := 6 * i + 1) hx hb hX hbl hbA hS (by omega) (by omega) dL_law_131 ?_
      refine z_calli (wr := [(S, .inr (2, [.ref V, .int (nI 0), .int (nI 0), .int (nI 0)])), (V, .inl (G 2, n, .inl f)), (y, .inr (1, [.ref Ly, .ref Wy])), (Ly, .inl (G 0, 62, .inl ma)), (Wy, .inl (G 0, n, .inl wf))]) (va_runV (As := [.int (xs (6 * i + 1))]) (rest := []) ⟨hx, hb, hml, hown, hts⟩ (m_X0_write l D G ek hk hlt hxa H.size) (cwV 1 hts (lw_V q47 q48 q49 q2 q50) rfl rfl rfl (by decide +kernel) ⟨Nat.le_of_ble_eq_true rfl, Nat.le_of_ble_eq_true rfl⟩) (z_preV (z_rc hK hP 0 0 rfl rfl) (z_preS hK hP hD hG hS hA [0, 1] rfl (by decide))) rfl rfl hl.1 rfl (lv_room (Nat.le_of_ble_eq_true rfl)) dL_law_132 ⟨show 10 + (L / 6 - (k9 + 1)) * 60 + 11 ≤ 1200096 by omega, show 300 + (L / 6 - (k9 + 1)) * 2200 + 488 ≤ 5501386 by omega⟩) hP hD hS hA [0, 1] [2, 3, 4, 5, 6] rfl rfl (by decide) (by decide) (fun r9 u H locs hw hP hD hS => ?_)
      obtain ⟨S1, V1, f1⟩ := u
      obtain ⟨rfl, hf1⟩ := hw
      have hP : va_P D zCl [(S, .inr (2, [.ref V, .int (nI 0), .int (nI 0), .int (nI 0)])), (V, .inl (G 2, n, .inl f)), (y, .inr (1, [.ref Ly, .ref Wy])), (Ly, .inl (G 0, 62, .inl ma)), (Wy, .inl (G 0, n, .inl wf)), (x, .inr (0, [.ref Lx, .ref S1])), (Lx, .inl (G 1, 62, .inl xa)), (S1, .inr (2, [.ref V1, .int (nI 0), .int (nI 0), .int (nI 0)])), (V1, .inl (G 2, zroom k + zch k, .inl f1))] H := hP
      have hD : va_D A [(S, .inr (2, [.ref V, .int (nI 0), .int (nI 0), .int (nI 0)])), (V, .inl (G 2, n, .inl f)), (y, .inr (1, [.ref Ly, .ref Wy])), (Ly, .inl (G 0, 62, .inl ma)), (Wy, .inl (G 0, n, .inl wf)), (x, .inr (0, [.ref Lx, .ref S1])), (Lx, .inl (G 1, 62, .inl xa)), (S1, .inr (2, [.ref V1, .int (nI 0), .int (nI 0), .int (nI 0)])), (V1, .inl (G 2, zroom k + zch k, .inl f1))] := hD
      refine lv_aload_n hx hb dL_law_135 rfl (lv_at hl 3 rfl) ?_
      refine lv_aload_n hx hb dL_law_136 rfl (lv_at hl 1 rfl) ?_
      refine lv_iload_n hx hb dL_law_137 rfl (lv_at hl 0 rfl) ?_
      refine lv_iconst (v := nI 1) hx hb dL_law_138 (by decide) ?_
      refine z_iadd hx hb dL_law_139 ?_
      refine z_sld (j := 6 * i + 1) hx hb hX hbl hbA hS (by omega) (by omega) dL_law_140 ?_
      refine z_calli (wr := [(S, .inr (2, [.ref V, .int (nI 0), .int (nI 0), .int (nI 0)])), (V, .inl (G 2, n, .inl f)), (Wy, .inl (G 0, n, .inl wf)), (x, .inr (0, [.ref Lx, .ref S1])), (Lx, .inl (G 1, 62, .inl xa)), (S1, .inr (2, [.ref V1, .int (nI 0), .int (nI 0), .int (nI 0)])), (V1, .inl (G 2, zroom k + zch k, .inl f1))]) (va_runV (As := [.int (xs (6 * i + 1))]) (rest := [.int (nI (zroom k + zch k))]) ⟨hx, hb, hml, hown, hts⟩ (m_X1_write l D G ek hk hlt hma H.size) (cwV 1 hts (lw_V q559 q560 q561 q3 q562) rfl rfl rfl (by decide +kernel) ⟨Nat.le_of_ble_eq_true rfl, Nat.le_of_ble_eq_true rfl⟩) (z_preV (z_rc hK hP 2 1 rfl rfl) (z_preS hK hP hD hG hS hA [2, 3] rfl (by decide))) rfl rfl hl.1 rfl (lv_room (Nat.le_of_ble_eq_true rfl)) dL_law_141 ⟨show 10 + (L / 6 - (k9 + 1)) * 60 + 11 + 41 ≤ 1200096 by omega, show 300 + (L / 6 - (k9 + 1)) * 2200 + 488 + 1585 ≤ 5501386 by omega⟩) hP hD hS hA [2, 3] [0, 1, 4, 5, 6, 7, 8] rfl rfl (by decide) (by decide) (fun r9 u H locs hw hP hD hS => ?_)
      obtain ⟨W1, w1⟩ := u
      obtain ⟨rfl, hw1⟩ := hw
      have hP : va_P D zCl [(S, .inr (2, [.ref V, .int (nI 0), .int (nI 0), .int (nI 0)])), (V, .inl (G 2, n, .inl f)), (Wy, .inl (G 0, n, .inl wf)), (x, .inr (0, [.ref Lx, .ref S1])), (Lx, .inl (G 1, 62, .inl xa)), (S1, .inr (2, [.ref V1, .int (nI 0), .int (nI 0), .int (nI 0)])), (V1, .inl (G 2, zroom k + zch k, .inl f1)), (y, .inr (1, [.ref Ly, .ref W1])), (Ly, .inl (G 0, 62, .inl ma)), (W1, .inl (G 0, zroom k + zch k, .inl w1))] H := hP
      have hD : va_D A [(S, .inr (2, [.ref V, .int (nI 0), .int (nI 0), .int (nI 0)])), (V, .inl (G 2, n, .inl f)), (Wy, .inl (G 0, n, .inl wf)), (x, .inr (0, [.ref Lx, .ref S1])), (Lx, .inl (G 1, 62, .inl xa)), (S1, .inr (2, [.ref V1, .int (nI 0), .int (nI 0), .int (nI 0)])), (V1, .inl (G 2, zroom k + zch k, .inl f1)), (y, .inr (1, [.ref Ly, .ref W1])), (Ly, .inl (G 0, 62, .inl ma)), (W1, .inl (G 0, zroom k + zch k, .inl w1))] := hD
      refine lv_icmp_eq (tgt := 172) hx hb dL_law_144 (by decide) (fun _ => ?_) (fun c9 => absurd rfl c9)
      have hP := hP.sub (ws' := [(x, .inr (0, [.ref Lx, .ref S1])), (Lx, .inl (G 1, 62, .inl xa)), (S1, .inr (2, [.ref V1, .int (nI 0), .int (nI 0), .int (nI 0)])), (V1, .inl (G 2, zroom k + zch k, .inl f1)), (y, .inr (1, [.ref Ly, .ref W1])), (Ly, .inl (G 0, 62, .inl ma)), (W1, .inl (G 0, zroom k + zch k, .inl w1))]) [3, 4, 5, 6, 7, 8, 9] rfl
      have hD := hD.sub (ws' := [(x, .inr (0, [.ref Lx, .ref S1])), (Lx, .inl (G 1, 62, .inl xa)), (S1, .inr (2, [.ref V1, .int (nI 0), .int (nI 0), .int (nI 0)])), (V1, .inl (G 2, zroom k + zch k, .inl f1)), (y, .inr (1, [.ref Ly, .ref W1])), (Ly, .inl (G 0, 62, .inl ma)), (W1, .inl (G 0, zroom k + zch k, .inl w1))]) [3, 4, 5, 6, 7, 8, 9] (by decide) rfl
      refine W.widen (k := 10 + (L / 6 - k9) * 60) (n := 300 + (L / 6 - k9) * 2200) (show 10 + (L / 6 - (k9 + 1)) * 60 + 11 + 41 ≤ 10 + (L / 6 - k9) * 60 by omega) (show 300 + (L / 6 - (k9 + 1)) * 2200 + 488 + 1585 ≤ 300 + (L / 6 - k9) * 2200 by omega) ?_
      refine lv_iinc (v := (nI (6 * (i + 1)))) (lv' := [(3, .int (nI (6 * (i + 1)))), (0, .ref b), (1, .ref x), (2, .ref y)]) hx hb dL_law_172 hl (k := 0) rfl ((nI_add (6 * i) 6).trans (congrArg nI (by omega))) (by decide) rfl (fun ls hl => ?_)
      refine lv_goto (tgt := 18) hx hb dL_law_175 (by decide) ?_
      exact ih H locs ls ⟨i + 1, S1, V1, zroom k + zch k, W1, xa, ma, f1, w1, lt, zw k lt, by omega, by omega, hlt, hxa, hma, hf1, hw1, hP, hD, hS, lv_sub hl [0, 1, 2, 3] rfl⟩
    · refine lv_tableIn (off := 117) (tgt := 149) hx hb dL_law_32 (by decide) (by decide) (by decide) (by decide) ?_
      refine lv_aload_n hx hb dL_law_149 rfl (lv_at hl 2 rfl) ?_
      refine lv_aload_n hx hb dL_law_150 rfl (lv_at hl 1 rfl) ?_
      refine lv_iload_n hx hb dL_law_151 rfl (lv_at hl 0 rfl) ?_
      refine lv_iconst (v := nI 1) hx hb dL_law_152 (by decide) ?_
      refine z_iadd hx hb dL_law_153 ?_
      refine z_sld (j := 6 * i + 1) hx hb hX hbl hbA hS (by omega) (by omega) dL_law_154 ?_
      refine z_getc (va_runV (As := [.int (xs (6 * i + 1))]) (rest := []) ⟨hx, hb, hml, hown, hts⟩ (g_X0_whole l D G (xs (6 * i + 1)) hn.1 hn.2 htt) (cwV 1 hts (lw_V q532 q533 q534 q2 q535) rfl rfl rfl (by decide +kernel) ⟨Nat.le_of_ble_eq_true rfl, Nat.le_of_ble_eq_true rfl⟩) (z_preVg (z_rc hK hP 0 0 rfl rfl) (z_preSg hK hP hG hS [0, 2, 3] rfl)) rfl rfl hl.1 rfl (lv_room (Nat.le_of_ble_eq_true rfl)) dL_law_155 ⟨show 10 + (L / 6 - (k9 + 1)) * 60 ≤ 1200096 by omega, show 300 + (L / 6 - (k9 + 1)) * 2200 ≤ 5501386 by omega⟩) ?_
      refine lv_aload_n hx hb dL_law_158 rfl (lv_at hl 3 rfl) ?_
      refine lv_aload_n hx hb dL_law_159 rfl (lv_at hl 1 rfl) ?_
      refine lv_iload_n hx hb dL_law_160 rfl (lv_at hl 0 rfl) ?_
      refine lv_iconst (v := nI 1) hx hb dL_law_161 (by decide) ?_
      refine z_iadd hx hb dL_law_162 ?_
      refine z_sld (j := 6 * i + 1) hx hb hX hbl hbA hS (by omega) (by omega) dL_law_163 ?_
      refine z_getc (va_runV (As := [.int (xs (6 * i + 1))]) (rest := [.int (nI (tt (zix (xs (6 * i + 1)) n)))]) ⟨hx, hb, hml, hown, hts⟩ (g_X1_whole l D G (xs (6 * i + 1)) hn.1 hn.2 hwf) (cwV 1 hts (lw_V q575 q576 q577 q3 q578) rfl rfl rfl (by decide +kernel) ⟨Nat.le_of_ble_eq_true rfl, Nat.le_of_ble_eq_true rfl⟩) (z_preVg (z_rc hK hP 4 1 rfl rfl) (z_preSg hK hP hG hS [4, 6] rfl)) rfl rfl hl.1 rfl (lv_room (Nat.le_of_ble_eq_true rfl)) dL_law_164 ⟨show 10 + (L / 6 - (k9 + 1)) * 60 ≤ 1200096 by omega, show 300 + (L / 6 - (k9 + 1)) * 2200 ≤ 5501386 by omega⟩) ?_
      refine lv_icmp_eq (tgt := 172) hx hb dL_law_167 (by decide) (fun _ => ?_) (fun c9 => absurd rfl c9)
      have hP := hP.sub (ws' := [(x, .inr (0, [.ref Lx, .ref S])), (Lx, .inl (G 1, 62, .inl xa)), (S, .inr (2, [.ref V, .int (nI 0), .int (nI 0), .int (nI 0)])), (V, .inl (G 2, n, .inl f)), (y, .inr (1, [.ref Ly, .ref Wy])), (Ly, .inl (G 0, 62, .inl ma)), (Wy, .inl (G 0, n, .inl wf))]) [0, 1, 2, 3, 4, 5, 6] rfl
      have hD := hD.sub (ws' := [(x, .inr (0, [.ref Lx, .ref S])), (Lx, .inl (G 1, 62, .inl xa)), (S, .inr (2, [.ref V, .int (nI 0), .int (nI 0), .int (nI 0)])), (V, .inl (G 2, n, .inl f)), (y, .inr (1, [.ref Ly, .ref Wy])), (Ly, .inl (G 0, 62, .inl ma)), (Wy, .inl (G 0, n, .inl wf))]) [0, 1, 2, 3, 4, 5, 6] (by decide) rfl
      refine W.widen (k := 10 + (L / 6 - k9) * 60) (n := 300 + (L / 6 - k9) * 2200) (show 10 + (L / 6 - (k9 + 1)) * 60 ≤ 10 + (L / 6 - k9) * 60 by omega) (show 300 + (L / 6 - (k9 + 1)) * 2200 ≤ 300 + (L / 6 - k9) * 2200 by omega) ?_
      refine lv_iinc (v := (nI (6 * (i + 1)))) (lv' := [(3, .int (nI (6 * (i + 1)))), (0, .ref b), (1, .ref x), (2, .ref y)]) hx hb dL_law_172 hl (k := 0) rfl ((nI_add (6 * i) 6).trans (congrArg nI (by omega))) (by decide) rfl (fun ls hl => ?_)
      refine lv_goto (tgt := 18) hx hb dL_law_175 (by decide) ?_
      exact ih H locs ls ⟨i + 1, S, V, n, Wy, xa, ma, f, wf, lt, tt, by omega, hn, hlt, hxa, hma, htt, hwf, hP, hD, hS, lv_sub hl [0, 1, 2, 3] rfl⟩
set_option maxHeartbeats 4000000 in
set_option maxRecDepth 100000 in
/-- the law's loop, ahead of the first symbol -/
theorem law_A {p : Program} {l : Launch} {e : Env} {s : State} {m : MethodId} {below : List Frame} {meth : Method} {c : Code} {D : va_G} {G : Nat → Nat} {A : Nat → Prop} {b L x Lx y Ly : Nat} {xs : Nat → Int32} (hL : L ≤ 288) (C0 : lw_At p s m meth c b L xs) (hAe : A = fun q => s.heap.size ≤ q) (hK : va_K D zCl (zTy G) s) (hG : zG G A s s.heap) (k8 : Nat) {H : Heap} {locs : List Loc} {ls : Array Slot} (h0 : ∃ (i : Nat) (Wy : Nat) (xa : Nat → Int32) (ma : Nat → Int32) (wf : Nat → Int32) (lt : Nat → Nat), (i + k8 = L / 6) ∧ (∀ j, lt j < 256) ∧ (zCh lt 62 xa) ∧ (zCh lt 62 ma) ∧ va_P D zCl [(x, .inr (0, [.ref Lx, .ref (G 9)])), (Lx, .inl (G 1, 62, .inl xa)), (y, .inr (1, [.ref Ly, .ref Wy])), (Ly, .inl (G 0, 62, .inl ma)), (Wy, .inl (G 0, 0, .inl wf))] H ∧ va_D A [(x, .inr (0, [.ref Lx, .ref (G 9)])), (Lx, .inl (G 1, 62, .inl xa)), (y, .inr (1, [.ref Ly, .ref Wy])), (Ly, .inl (G 0, 62, .inl ma)), (Wy, .inl (G 0, 0, .inl wf))] ∧ va_S A s.heap H locs ∧ lv_has ls 4 [(3, .int (nI (6 * i))), (0, .ref b), (1, .ref x), (2, .ref y)]) :
    W p l e room_1 s m #[Value.ref b] below meth c H locs (10 + (L / 6 - k8) * 60) (300 + (L / 6 - k8) * 2200) (lw_Z below #[Value.ref b] s) (F0 m 18 ls []) := by
  obtain ⟨hx, hb, hr, hml, hown, hts0, hX, hbl, hlocks, hgv⟩ := id C0
  have hb : c.code = cL_law := hb
  have hts : ∀ w ∈ lw_all, w.before #[Value.ref b] s = true := fun w h => hts0 w (lw_all_tbl h)
  have hA : ∀ q : Nat, s.heap.size ≤ q → A q := fun q h => by rw [hAe]; exact h
  have hAf : ∀ q : Nat, A q → s.heap.size ≤ q := fun q h => by rw [hAe] at h; exact h
  have hbA : ¬ A b := fun h => absurd (hAf b h) (Nat.not_le.mpr hbl)
  refine z_loop (cf := fun k9 => 10 + (L / 6 - k9) * 60) (sf := fun k9 => 300 + (L / 6 - k9) * 2200) (I := fun k9 H locs ls => ∃ (i : Nat) (Wy : Nat) (xa : Nat → Int32) (ma : Nat → Int32) (wf : Nat → Int32) (lt : Nat → Nat), (i + k9 = L / 6) ∧ (∀ j, lt j < 256) ∧ (zCh lt 62 xa) ∧ (zCh lt 62 ma) ∧ va_P D zCl [(x, .inr (0, [.ref Lx, .ref (G 9)])), (Lx, .inl (G 1, 62, .inl xa)), (y, .inr (1, [.ref Ly, .ref Wy])), (Ly, .inl (G 0, 62, .inl ma)), (Wy, .inl (G 0, 0, .inl wf))] H ∧ va_D A [(x, .inr (0, [.ref Lx, .ref (G 9)])), (Lx, .inl (G 1, 62, .inl xa)), (y, .inr (1, [.ref Ly, .ref Wy])), (Ly, .inl (G 0, 62, .inl ma)), (Wy, .inl (G 0, 0, .inl wf))] ∧ va_S A s.heap H locs ∧ lv_has ls 4 [(3, .int (nI (6 * i))), (0, .ref b), (1, .ref x), (2, .ref y)]) (N := k8) h0 ?_ ?_
  · intro H locs ls hI
    obtain ⟨i, Wy, xa, ma, wf, lt, hi, hlt, hxa, hma, hP, hD, hS, hl⟩ := hI
    obtain rfl : i = L / 6 := by omega
    refine lv_iload_n hx hb dL_law_18 rfl (lv_at hl 0 rfl) ?_
    refine lv_aload_n hx hb dL_law_19 rfl (lv_at hl 1 rfl) ?_
    refine va_slen hx hb hX hbl hbA hS dL_law_20 ?_
    refine lv_bipush (v := nI 6) hx hb dL_law_21 (by decide) ?_
    refine lv_isub hx hb dL_law_23 ?_
    refine lv_icmp_gt (tgt := 178) hx hb dL_law_24 (by decide) (fun _ => ?_) (fun c9 => absurd (z_len_t (by omega) (by omega) (by omega)) c9)
    refine lv_iconst (v := 1) hx hb dL_law_178 (by decide) ?_
    refine va_forget (fun q hq => hAf _ (hS.2.2 q hq)) ?_
    refine W.widen (k := 1200096) (n := 5501386) (show 10 + (L / 6 - 0) * 60 ≤ 1200096 by omega) (show 300 + (L / 6 - 0) * 2200 ≤ 5501386 by omega) ?_
    exact lw_ret hx hb hr hlocks dL_law_179
  · intro k9 ih H locs ls hI
    obtain ⟨i, Wy, xa, ma, wf, lt, hi, hlt, hxa, hma, hP, hD, hS, hl⟩ := hI
    have hi6 : 6 * i + 6 ≤ L := by omega
    have hT : k9 + 1 ≤ L / 6 := by omega
    have hT2 : L / 6 ≤ 48 := by omega
    refine lv_iload_n hx hb dL_law_18 rfl (lv_at hl 0 rfl) ?_
    refine lv_aload_n hx hb dL_law_19 rfl (lv_at hl 1 rfl) ?_
    refine va_slen hx hb hX hbl hbA hS dL_law_20 ?_
    refine lv_bipush (v := nI 6) hx hb dL_law_21 (by decide) ?_
    refine lv_isub hx hb dL_law_23 ?_
    refine lv_icmp_gt (tgt := 178) hx hb dL_law_24 (by decide) (fun c9 => absurd c9 (z_len_f (by omega) (by omega))) (fun _ => ?_)
    refine lv_aload_n hx hb dL_law_27 rfl (lv_at hl 1 rfl) ?_
    refine lv_iload_n hx hb dL_law_28 rfl (lv_at hl 0 rfl) ?_
    refine z_sld (j := 6 * i) hx hb hX hbl hbA hS (by omega) (by omega) dL_law_29 ?_
    refine lv_iconst (v := nI 3) hx hb dL_law_30 (by decide) ?_
    refine z_iandK (M := (nI 3)) hx hb 2 (by decide) dL_law_31 ?_
    obtain ⟨c0, hc0, ec0⟩ : ∃ c0, c0 < 4 ∧ c0 = (xs (6 * i)).toBitVec.toNat % 2 ^ 2 := ⟨_, Nat.mod_lt _ (by decide), rfl⟩
    rw [← ec0]
    rcases (show c0 = 0 ∨ c0 = 1 ∨ c0 = 2 ∨ c0 = 3 by omega) with rfl | rfl | rfl | rfl
    · refine lv_tableIn (off := 32) (tgt := 64) hx hb dL_law_32 (by decide) (by decide) (by decide) (by decide) ?_
      have hv1 := zlo_lt (xs (6 * i + 2))
      refine lv_aload_n hx hb dL_law_64 rfl (lv_at hl 2 rfl) ?_
      refine lv_aload_n hx hb dL_law_65 rfl (lv_at hl 1 rfl) ?_
      refine lv_iload_n hx hb dL_law_66 rfl (lv_at hl 0 rfl) ?_
      refine lv_iconst (v := nI 1) hx hb dL_law_67 (by decide) ?_
      refine z_iadd hx hb dL_law_68 ?_
      refine z_sld (j := 6 * i + 1) hx hb hX hbl hbA hS (by omega) (by omega) dL_law_69 ?_
      refine lv_aload_n hx hb dL_law_70 rfl (lv_at hl 1 rfl) ?_
      refine lv_iload_n hx hb dL_law_71 rfl (lv_at hl 0 rfl) ?_
      refine lv_iconst (v := nI 2) hx hb dL_law_72 (by decide) ?_
      refine z_iadd hx hb dL_law_73 ?_
      refine z_sld (j := 6 * i + 2) hx hb hX hbl hbA hS (by omega) (by omega) dL_law_74 ?_
      refine z_callv (wr := [(y, .inr (1, [.ref Ly, .ref Wy])), (Ly, .inl (G 0, 62, .inl ma)), (Wy, .inl (G 0, 0, .inl wf))]) (va_runV (As := [.int (xs (6 * i + 1)), .int (xs (6 * i + 2))]) (rest := []) ⟨hx, hb, hml, hown, hts⟩ (m_X0_letter l D G (xs (6 * i + 1)) (xs (6 * i + 2)) H.size) (cwV 2 hts (lw_V q38 q39 q40 q2 q41) rfl rfl rfl (by decide +kernel) ⟨Nat.le_of_ble_eq_true rfl, Nat.le_of_ble_eq_true rfl⟩) (z_preV (z_rc hK hP 0 0 rfl rfl) (z_preS hK hP hD hG hS hA [0, 1] rfl (by decide))) rfl rfl hl.1 rfl (lv_room (Nat.le_of_ble_eq_true rfl)) dL_law_75 ⟨show 10 + (L / 6 - (k9 + 1)) * 60 + 0 ≤ 1200096 by omega, show 300 + (L / 6 - (k9 + 1)) * 2200 + 0 ≤ 5501386 by omega⟩) hP hD hS hA [0, 1] [2, 3, 4] rfl rfl (by decide) (by decide) (fun u H locs hw hP hD hS => ?_)
      have hP : va_P D zCl [(y, .inr (1, [.ref Ly, .ref Wy])), (Ly, .inl (G 0, 62, .inl ma)), (Wy, .inl (G 0, 0, .inl wf)), (x, .inr (0, [.ref Lx, .ref (G 9)])), (Lx, .inl (G 1, 62, .inl (upd xa (zix (xs (6 * i + 1)) 62) (nI (zlo (xs (6 * i + 2)))))))] H := hP
      have hD : va_D A [(y, .inr (1, [.ref Ly, .ref Wy])), (Ly, .inl (G 0, 62, .inl ma)), (Wy, .inl (G 0, 0, .inl wf)), (x, .inr (0, [.ref Lx, .ref (G 9)])), (Lx, .inl (G 1, 62, .inl (upd xa (zix (xs (6 * i + 1)) 62) (nI (zlo (xs (6 * i + 2)))))))] := hD
      refine lv_aload_n hx hb dL_law_78 rfl (lv_at hl 3 rfl) ?_
      refine lv_aload_n hx hb dL_law_79 rfl (lv_at hl 1 rfl) ?_
      refine lv_iload_n hx hb dL_law_80 rfl (lv_at hl 0 rfl) ?_
      refine lv_iconst (v := nI 1) hx hb dL_law_81 (by decide) ?_
      refine z_iadd hx hb dL_law_82 ?_
      refine z_sld (j := 6 * i + 1) hx hb hX hbl hbA hS (by omega) (by omega) dL_law_83 ?_
      refine lv_aload_n hx hb dL_law_84 rfl (lv_at hl 1 rfl) ?_
      refine lv_iload_n hx hb dL_law_85 rfl (lv_at hl 0 rfl) ?_
      refine lv_iconst (v := nI 2) hx hb dL_law_86 (by decide) ?_
      refine z_iadd hx hb dL_law_87 ?_
      refine z_sld (j := 6 * i + 2) hx hb hX hbl hbA hS (by omega) (by omega) dL_law_88 ?_
      refine z_callv (wr := [(Wy, .inl (G 0, 0, .inl wf)), (x, .inr (0, [.ref Lx, .ref (G 9)])), (Lx, .inl (G 1, 62, .inl (upd xa (zix (xs (6 * i + 1)) 62) (nI (zlo (xs (6 * i + 2)))))))]) (va_runV (As := [.int (xs (6 * i + 1)), .int (xs (6 * i + 2))]) (rest := []) ⟨hx, hb, hml, hown, hts⟩ (m_X1_letter l D G (xs (6 * i + 1)) (xs (6 * i + 2)) H.size) (cwV 2 hts (lw_V q550 q551 q552 q3 q553) rfl rfl rfl (by decide +kernel) ⟨Nat.le_of_ble_eq_true rfl, Nat.le_of_ble_eq_true rfl⟩) (z_preV (z_rc hK hP 0 1 rfl rfl) (z_preS hK hP hD hG hS hA [0, 1] rfl (by decide))) rfl rfl hl.1 rfl (lv_room (Nat.le_of_ble_eq_true rfl)) dL_law_89 ⟨show 10 + (L / 6 - (k9 + 1)) * 60 + 0 + 0 ≤ 1200096 by omega, show 300 + (L / 6 - (k9 + 1)) * 2200 + 0 + 0 ≤ 5501386 by omega⟩) hP hD hS hA [0, 1] [2, 3, 4] rfl rfl (by decide) (by decide) (fun u H locs hw hP hD hS => ?_)
      have hP : va_P D zCl [(Wy, .inl (G 0, 0, .inl wf)), (x, .inr (0, [.ref Lx, .ref (G 9)])), (Lx, .inl (G 1, 62, .inl (upd xa (zix (xs (6 * i + 1)) 62) (nI (zlo (xs (6 * i + 2))))))), (y, .inr (1, [.ref Ly, .ref Wy])), (Ly, .inl (G 0, 62, .inl (upd ma (zix (xs (6 * i + 1)) 62) (nI (zlo (xs (6 * i + 2)))))))] H := hP
      have hD : va_D A [(Wy, .inl (G 0, 0, .inl wf)), (x, .inr (0, [.ref Lx, .ref (G 9)])), (Lx, .inl (G 1, 62, .inl (upd xa (zix (xs (6 * i + 1)) 62) (nI (zlo (xs (6 * i + 2))))))), (y, .inr (1, [.ref Ly, .ref Wy])), (Ly, .inl (G 0, 62, .inl (upd ma (zix (xs (6 * i + 1)) 62) (nI (zlo (xs (6 * i + 2)))))))] := hD
      refine lv_goto (tgt := 172) hx hb dL_law_92 (by decide) ?_
      have hP := hP.sub (ws' := [(x, .inr (0, [.ref Lx, .ref (G 9)])), (Lx, .inl (G 1, 62, .inl (upd xa (zix (xs (6 * i + 1)) 62) (nI (zlo (xs (6 * i + 2))))))), (y, .inr (1, [.ref Ly, .ref Wy])), (Ly, .inl (G 0, 62, .inl (upd ma (zix (xs (6 * i + 1)) 62) (nI (zlo (xs (6 * i + 2))))))), (Wy, .inl (G 0, 0, .inl wf))]) [1, 2, 3, 4, 0] rfl
      have hD := hD.sub (ws' := [(x, .inr (0, [.ref Lx, .ref (G 9)])), (Lx, .inl (G 1, 62, .inl (upd xa (zix (xs (6 * i + 1)) 62) (nI (zlo (xs (6 * i + 2))))))), (y, .inr (1, [.ref Ly, .ref Wy])), (Ly, .inl (G 0, 62, .inl (upd ma (zix (xs (6 * i + 1)) 62) (nI (zlo (xs (6 * i + 2))))))), (Wy, .inl (G 0, 0, .inl wf))]) [1, 2, 3, 4, 0] (by decide) rfl
      refine W.widen (k := 10 + (L / 6 - k9) * 60) (n := 300 + (L / 6 - k9) * 2200) (show 10 + (L / 6 - (k9 + 1)) * 60 + 0 + 0 ≤ 10 + (L / 6 - k9) * 60 by omega) (show 300 + (L / 6 - (k9 + 1)) * 2200 + 0 + 0 ≤ 300 + (L / 6 - k9) * 2200 by omega) ?_
      refine lv_iinc (v := (nI (6 * (i + 1)))) (lv' := [(3, .int (nI (6 * (i + 1)))), (0, .ref b), (1, .ref x), (2, .ref y)]) hx hb dL_law_172 hl (k := 0) rfl ((nI_add (6 * i) 6).trans (congrArg nI (by omega))) (by decide) rfl (fun ls hl => ?_)
      refine lv_goto (tgt := 18) hx hb dL_law_175 (by decide) ?_
      exact ih H locs ls ⟨i + 1, Wy, _, _, wf, va_up lt (zix (xs (6 * i + 1)) 62) (zlo (xs (6 * i + 2))), by omega, z_upb hlt hv1, z_chu hxa hv1, z_chu hma hv1, hP, hD, hS, lv_sub hl [0, 1, 2, 3] rfl⟩
    · refine lv_tableIn (off := 63) (tgt := 95) hx hb dL_law_32 (by decide) (by decide) (by decide) (by decide) ?_
      refine lv_aload_n hx hb dL_law_95 rfl (lv_at hl 2 rfl) ?_
      refine lv_aload_n hx hb dL_law_96 rfl (lv_at hl 1 rfl) ?_
      refine lv_iload_n hx hb dL_law_97 rfl (lv_at hl 0 rfl) ?_
      refine lv_iconst (v := nI 1) hx hb dL_law_98 (by decide) ?_
      refine z_iadd hx hb dL_law_99 ?_
      refine z_sld (j := 6 * i + 1) hx hb hX hbl hbA hS (by omega) (by omega) dL_law_100 ?_
      refine lv_aload_n hx hb dL_law_101 rfl (lv_at hl 1 rfl) ?_
      refine lv_iload_n hx hb dL_law_102 rfl (lv_at hl 0 rfl) ?_
      refine lv_iconst (v := nI 2) hx hb dL_law_103 (by decide) ?_
      refine z_iadd hx hb dL_law_104 ?_
      refine z_sld (j := 6 * i + 2) hx hb hX hbl hbA hS (by omega) (by omega) dL_law_105 ?_
      refine z_callv (wr := [(y, .inr (1, [.ref Ly, .ref Wy])), (Ly, .inl (G 0, 62, .inl ma)), (Wy, .inl (G 0, 0, .inl wf))]) (va_runV (As := [.int (xs (6 * i + 1)), .int (xs (6 * i + 2))]) (rest := []) ⟨hx, hb, hml, hown, hts⟩ (m_X0_fill l D G (xs (6 * i + 1)) (xs (6 * i + 2)) H.size) (cwV 2 hts (lw_V q43 q44 q45 q2 q46) rfl rfl rfl (by decide +kernel) ⟨Nat.le_of_ble_eq_true rfl, Nat.le_of_ble_eq_true rfl⟩) (z_preV (z_rc hK hP 0 0 rfl rfl) (z_preS hK hP hD hG hS hA [0, 1] rfl (by decide))) rfl rfl hl.1 rfl (lv_room (Nat.le_of_ble_eq_true rfl)) dL_law_106 ⟨show 10 + (L / 6 - (k9 + 1)) * 60 + 0 ≤ 1200096 by omega, show 300 + (L / 6 - (k9 + 1)) * 2200 + 0 ≤ 5501386 by omega⟩) hP hD hS hA [0, 1] [2, 3, 4] rfl rfl (by decide) (by decide) (fun fx H locs hw hP hD hS => ?_)
      have hfx : ∀ j, j < 62 → fx j = nI (zfl (xs (6 * i + 1)) (xs (6 * i + 2)) j) := hw
      have hP : va_P D zCl [(y, .inr (1, [.ref Ly, .ref Wy])), (Ly, .inl (G 0, 62, .inl ma)), (Wy, .inl (G 0, 0, .inl wf)), (x, .inr (0, [.ref Lx, .ref (G 9)])), (Lx, .inl (G 1, 62, .inl fx))] H := hP
      have hD : va_D A [(y, .inr (1, [.ref Ly, .ref Wy])), (Ly, .inl (G 0, 62, .inl ma)), (Wy, .inl (G 0, 0, .inl wf)), (x, .inr (0, [.ref Lx, .ref (G 9)])), (Lx, .inl (G 1, 62, .inl fx))] := hD
      refine lv_aload_n hx hb dL_law_109 rfl (lv_at hl 3 rfl) ?_
      refine lv_aload_n hx hb dL_law_110 rfl (lv_at hl 1 rfl) ?_
      refine lv_iload_n hx hb dL_law_111 rfl (lv_at hl 0 rfl) ?_
      refine lv_iconst (v := nI 1) hx hb dL_law_112 (by decide) ?_
      refine z_iadd hx hb dL_law_113 ?_
      refine z_sld (j := 6 * i + 1) hx hb hX hbl hbA hS (by omega) (by omega) dL_law_114 ?_
      refine lv_aload_n hx hb dL_law_115 rfl (lv_at hl 1 rfl) ?_
      refine lv_iload_n hx hb dL_law_116 rfl (lv_at hl 0 rfl) ?_
      refine lv_iconst (v := nI 2) hx hb dL_law_117 (by decide) ?_
      refine z_iadd hx hb dL_law_118 ?_
      refine z_sld (j := 6 * i + 2) hx hb hX hbl hbA hS (by omega) (by omega) dL_law_119 ?_
      refine z_callv (wr := [(Wy, .inl (G 0, 0, .inl wf)), (x, .inr (0, [.ref Lx, .ref (G 9)])), (Lx, .inl (G 1, 62, .inl fx))]) (va_runV (As := [.int (xs (6 * i + 1)), .int (xs (6 * i + 2))]) (rest := []) ⟨hx, hb, hml, hown, hts⟩ (m_X1_fill l D G (xs (6 * i + 1)) (xs (6 * i + 2)) H.size) (cwV 2 hts (lw_V q555 q556 q557 q3 q558) rfl rfl rfl (by decide +kernel) ⟨Nat.le_of_ble_eq_true rfl, Nat.le_of_ble_eq_true rfl⟩) (z_preV (z_rc hK hP 0 1 rfl rfl) (z_preS hK hP hD hG hS hA [0, 1] rfl (by decide))) rfl rfl hl.1 rfl (lv_room (Nat.le_of_ble_eq_true rfl)) dL_law_120 ⟨show 10 + (L / 6 - (k9 + 1)) * 60 + 0 + 0 ≤ 1200096 by omega, show 300 + (L / 6 - (k9 + 1)) * 2200 + 0 + 0 ≤ 5501386 by omega⟩) hP hD hS hA [0, 1] [2, 3, 4] rfl rfl (by decide) (by decide) (fun fm H locs hw hP hD hS => ?_)
      have hfm : ∀ j, j < 62 → fm j = nI (zfl (xs (6 * i + 1)) (xs (6 * i + 2)) j) := hw
      have hP : va_P D zCl [(Wy, .inl (G 0, 0, .inl wf)), (x, .inr (0, [.ref Lx, .ref (G 9)])), (Lx, .inl (G 1, 62, .inl fx)), (y, .inr (1, [.ref Ly, .ref Wy])), (Ly, .inl (G 0, 62, .inl fm))] H := hP
      have hD : va_D A [(Wy, .inl (G 0, 0, .inl wf)), (x, .inr (0, [.ref Lx, .ref (G 9)])), (Lx, .inl (G 1, 62, .inl fx)), (y, .inr (1, [.ref Ly, .ref Wy])), (Ly, .inl (G 0, 62, .inl fm))] := hD
      refine lv_goto (tgt := 172) hx hb dL_law_123 (by decide) ?_
      have hP := hP.sub (ws' := [(x, .inr (0, [.ref Lx, .ref (G 9)])), (Lx, .inl (G 1, 62, .inl fx)), (y, .inr (1, [.ref Ly, .ref Wy])), (Ly, .inl (G 0, 62, .inl fm)), (Wy, .inl (G 0, 0, .inl wf))]) [1, 2, 3, 4, 0] rfl
      have hD := hD.sub (ws' := [(x, .inr (0, [.ref Lx, .ref (G 9)])), (Lx, .inl (G 1, 62, .inl fx)), (y, .inr (1, [.ref Ly, .ref Wy])), (Ly, .inl (G 0, 62, .inl fm)), (Wy, .inl (G 0, 0, .inl wf))]) [1, 2, 3, 4, 0] (by decide) rfl
      refine W.widen (k := 10 + (L / 6 - k9) * 60) (n := 300 + (L / 6 - k9) * 2200) (show 10 + (L / 6 - (k9 + 1)) * 60 + 0 + 0 ≤ 10 + (L / 6 - k9) * 60 by omega) (show 300 + (L / 6 - (k9 + 1)) * 2200 + 0 + 0 ≤ 300 + (L / 6 - k9) * 2200 by omega) ?_
      refine lv_iinc (v := (nI (6 * (i + 1)))) (lv' := [(3, .int (nI (6 * (i + 1)))), (0, .ref b), (1, .ref x), (2, .ref y)]) hx hb dL_law_172 hl (k := 0) rfl ((nI_add (6 * i) 6).trans (congrArg nI (by omega))) (by decide) rfl (fun ls hl => ?_)
      refine lv_goto (tgt := 18) hx hb dL_law_175 (by decide) ?_
      exact ih H locs ls ⟨i + 1, Wy, fx, fm, wf, zfl (xs (6 * i + 1)) (xs (6 * i + 2)), by omega, fun j => zlo_lt _, fun j hj => ⟨zlo_lt _, hfx j hj⟩, fun j hj => ⟨zlo_lt _, hfm j hj⟩, hP, hD, hS, lv_sub hl [0, 1, 2, 3] rfl⟩
    · refine lv_tableIn (off := 94) (tgt := 126) hx hb dL_law_32 (by decide) (by decide) (by decide) (by decide) ?_
      obtain ⟨k, hk, ek⟩ : ∃ k, k < 10 ∧ zix (xs (6 * i + 1)) 10 = k := ⟨_, zix_lt _ (by decide), rfl⟩
      have hro := zroom_in k hk
      have hch := zch_in k hk
      refine lv_aload_n hx hb dL_law_126 rfl (lv_at hl 2 rfl) ?_
      refine lv_aload_n hx hb dL_law_127 rfl (lv_at hl 1 rfl) ?_
      refine lv_iload_n hx hb dL_law_128 rfl (lv_at hl 0 rfl) ?_
      refine lv_iconst (v := nI 1) hx hb dL_law_129 (by decide) ?_
      refine z_iadd hx hb dL_law_130 ?_
      refine z_sld (j := 6 * i + 1) hx hb hX hbl hbA hS (by omega) (by omega) dL_law_131 ?_
      refine z_calli (wr := [(y, .inr (1, [.ref Ly, .ref Wy])), (Ly, .inl (G 0, 62, .inl ma)), (Wy, .inl (G 0, 0, .inl wf))]) (va_runV (As := [.int (xs (6 * i + 1))]) (rest := []) ⟨hx, hb, hml, hown, hts⟩ (m_X0_write l D G ek hk hlt hxa H.size) (cwV 1 hts (lw_V q47 q48 q49 q2 q50) rfl rfl rfl (by decide +kernel) ⟨Nat.le_of_ble_eq_true rfl, Nat.le_of_ble_eq_true rfl⟩) (z_preV (z_rc hK hP 0 0 rfl rfl) (z_preS hK hP hD hG hS hA [0, 1] rfl (by decide))) rfl rfl hl.1 rfl (lv_room (Nat.le_of_ble_eq_true rfl)) dL_law_132 ⟨show 10 + (L / 6 - (k9 + 1)) * 60 + 11 ≤ 1200096 by omega, show 300 + (L / 6 - (k9 + 1)) * 2200 + 488 ≤ 5501386 by omega⟩) hP hD hS hA [0, 1] [2, 3, 4] rfl rfl (by decide) (by decide) (fun r9 u H locs hw hP hD hS => ?_)
      obtain ⟨S1, V1, f1⟩ := u
      obtain ⟨rfl, hf1⟩ := hw
      have hP : va_P D zCl [(y, .inr (1, [.ref Ly, .ref Wy])), (Ly, .inl (G 0, 62, .inl ma)), (Wy, .inl (G 0, 0, .inl wf)), (x, .inr (0, [.ref Lx, .ref S1])), (Lx, .inl (G 1, 62, .inl xa)), (S1, .inr (2, [.ref V1, .int (nI 0), .int (nI 0), .int (nI 0)])), (V1, .inl (G 2, zroom k + zch k, .inl f1))] H := hP
      have hD : va_D A [(y, .inr (1, [.ref Ly, .ref Wy])), (Ly, .inl (G 0, 62, .inl ma)), (Wy, .inl (G 0, 0, .inl wf)), (x, .inr (0, [.ref Lx, .ref S1])), (Lx, .inl (G 1, 62, .inl xa)), (S1, .inr (2, [.ref V1, .int (nI 0), .int (nI 0), .int (nI 0)])), (V1, .inl (G 2, zroom k + zch k, .inl f1))] := hD
      refine lv_aload_n hx hb dL_law_135 rfl (lv_at hl 3 rfl) ?_
      refine lv_aload_n hx hb dL_law_136 rfl (lv_at hl 1 rfl) ?_
      refine lv_iload_n hx hb dL_law_137 rfl (lv_at hl 0 rfl) ?_
      refine lv_iconst (v := nI 1) hx hb dL_law_138 (by decide) ?_
      refine z_iadd hx hb dL_law_139 ?_
      refine z_sld (j := 6 * i + 1) hx hb hX hbl hbA hS (by omega) (by omega) dL_law_140 ?_
      refine z_calli (wr := [(Wy, .inl (G 0, 0, .inl wf)), (x, .inr (0, [.ref Lx, .ref S1])), (Lx, .inl (G 1, 62, .inl xa)), (S1, .inr (2, [.ref V1, .int (nI 0), .int (nI 0), .int (nI 0)])), (V1, .inl (G 2, zroom k + zch k, .inl f1))]) (va_runV (As := [.int (xs (6 * i + 1))]) (rest := [.int (nI (zroom k + zch k))]) ⟨hx, hb, hml, hown, hts⟩ (m_X1_write l D G ek hk hlt hma H.size) (cwV 1 hts (lw_V q559 q560 q561 q3 q562) rfl rfl rfl (by decide +kernel) ⟨Nat.le_of_ble_eq_true rfl, Nat.le_of_ble_eq_true rfl⟩) (z_preV (z_rc hK hP 0 1 rfl rfl) (z_preS hK hP hD hG hS hA [0, 1] rfl (by decide))) rfl rfl hl.1 rfl (lv_room (Nat.le_of_ble_eq_true rfl)) dL_law_141 ⟨show 10 + (L / 6 - (k9 + 1)) * 60 + 11 + 41 ≤ 1200096 by omega, show 300 + (L / 6 - (k9 + 1)) * 2200 + 488 + 1585 ≤ 5501386 by omega⟩) hP hD hS hA [0, 1] [2, 3, 4, 5, 6] rfl rfl (by decide) (by decide) (fun r9 u H locs hw hP hD hS => ?_)
      obtain ⟨W1, w1⟩ := u
      obtain ⟨rfl, hw1⟩ := hw
      have hP : va_P D zCl [(Wy, .inl (G 0, 0, .inl wf)), (x, .inr (0, [.ref Lx, .ref S1])), (Lx, .inl (G 1, 62, .inl xa)), (S1, .inr (2, [.ref V1, .int (nI 0), .int (nI 0), .int (nI 0)])), (V1, .inl (G 2, zroom k + zch k, .inl f1)), (y, .inr (1, [.ref Ly, .ref W1])), (Ly, .inl (G 0, 62, .inl ma)), (W1, .inl (G 0, zroom k + zch k, .inl w1))] H := hP
      have hD : va_D A [(Wy, .inl (G 0, 0, .inl wf)), (x, .inr (0, [.ref Lx, .ref S1])), (Lx, .inl (G 1, 62, .inl xa)), (S1, .inr (2, [.ref V1, .int (nI 0), .int (nI 0), .int (nI 0)])), (V1, .inl (G 2, zroom k + zch k, .inl f1)), (y, .inr (1, [.ref Ly, .ref W1])), (Ly, .inl (G 0, 62, .inl ma)), (W1, .inl (G 0, zroom k + zch k, .inl w1))] := hD
      refine lv_icmp_eq (tgt := 172) hx hb dL_law_144 (by decide) (fun _ => ?_) (fun c9 => absurd rfl c9)
      have hP := hP.sub (ws' := [(x, .inr (0, [.ref Lx, .ref S1])), (Lx, .inl (G 1, 62, .inl xa)), (S1, .inr (2, [.ref V1, .int (nI 0), .int (nI 0), .int (nI 0)])), (V1, .inl (G 2, zroom k + zch k, .inl f1)), (y, .inr (1, [.ref Ly, .ref W1])), (Ly, .inl (G 0, 62, .inl ma)), (W1, .inl (G 0, zroom k + zch k, .inl w1))]) [1, 2, 3, 4, 5, 6, 7] rfl
      have hD := hD.sub (ws' := [(x, .inr (0, [.ref Lx, .ref S1])), (Lx, .inl (G 1, 62, .inl xa)), (S1, .inr (2, [.ref V1, .int (nI 0), .int (nI 0), .int (nI 0)])), (V1, .inl (G 2, zroom k + zch k, .inl f1)), (y, .inr (1, [.ref Ly, .ref W1])), (Ly, .inl (G 0, 62, .inl ma)), (W1, .inl (G 0, zroom k + zch k, .inl w1))]) [1, 2, 3, 4, 5, 6, 7] (by decide) rfl
      refine W.widen (k := 10 + (L / 6 - k9) * 60) (n := 300 + (L / 6 - k9) * 2200) (show 10 + (L / 6 - (k9 + 1)) * 60 + 11 + 41 ≤ 10 + (L / 6 - k9) * 60 by omega) (show 300 + (L / 6 - (k9 + 1)) * 2200 + 488 + 1585 ≤ 300 + (L / 6 - k9) * 2200 by omega) ?_
      refine lv_iinc (v := (nI (6 * (i + 1)))) (lv' := [(3, .int (nI (6 * (i + 1)))), (0, .ref b), (1, .ref x), (2, .ref y)]) hx hb dL_law_172 hl (k := 0) rfl ((nI_add (6 * i) 6).trans (congrArg nI (by omega))) (by decide) rfl (fun ls hl => ?_)
      refine lv_goto (tgt := 18) hx hb dL_law_175 (by decide) ?_
      exact law_B hL C0 hAe hK hG k9 ⟨i + 1, S1, V1, zroom k + zch k, W1, xa, ma, f1, w1, lt, zw k lt, by omega, by omega, hlt, hxa, hma, hf1, hw1, hP, hD, hS, lv_sub hl [0, 1, 2, 3] rfl⟩
    · refine lv_tableIn (off := 117) (tgt := 149) hx hb dL_law_32 (by decide) (by decide) (by decide) (by decide) ?_
      refine lv_aload_n hx hb dL_law_149 rfl (lv_at hl 2 rfl) ?_
      refine lv_aload_n hx hb dL_law_150 rfl (lv_at hl 1 rfl) ?_
      refine lv_iload_n hx hb dL_law_151 rfl (lv_at hl 0 rfl) ?_
      refine lv_iconst (v := nI 1) hx hb dL_law_152 (by decide) ?_
      refine z_iadd hx hb dL_law_153 ?_
      refine z_sld (j := 6 * i + 1) hx hb hX hbl hbA hS (by omega) (by omega) dL_law_154 ?_
      refine z_getc (va_runV (As := [.int (xs (6 * i + 1))]) (rest := []) ⟨hx, hb, hml, hown, hts⟩ (g_X0_whole0 l D G (xs (6 * i + 1))) (cwV 1 hts (lw_V q532 q533 q534 q2 q535) rfl rfl rfl (by decide +kernel) ⟨Nat.le_of_ble_eq_true rfl, Nat.le_of_ble_eq_true rfl⟩) (z_preVg (z_rc hK hP 0 0 rfl rfl) (z_preSg hK hP hG hS [0] rfl)) rfl rfl hl.1 rfl (lv_room (Nat.le_of_ble_eq_true rfl)) dL_law_155 ⟨show 10 + (L / 6 - (k9 + 1)) * 60 ≤ 1200096 by omega, show 300 + (L / 6 - (k9 + 1)) * 2200 ≤ 5501386 by omega⟩) ?_
      refine lv_aload_n hx hb dL_law_158 rfl (lv_at hl 3 rfl) ?_
      refine lv_aload_n hx hb dL_law_159 rfl (lv_at hl 1 rfl) ?_
      refine lv_iload_n hx hb dL_law_160 rfl (lv_at hl 0 rfl) ?_
      refine lv_iconst (v := nI 1) hx hb dL_law_161 (by decide) ?_
      refine z_iadd hx hb dL_law_162 ?_
      refine z_sld (j := 6 * i + 1) hx hb hX hbl hbA hS (by omega) (by omega) dL_law_163 ?_
      refine z_getc (va_runV (As := [.int (xs (6 * i + 1))]) (rest := [.int (-1)]) ⟨hx, hb, hml, hown, hts⟩ (g_X1_whole0 l D G (xs (6 * i + 1))) (cwV 1 hts (lw_V q575 q576 q577 q3 q578) rfl rfl rfl (by decide +kernel) ⟨Nat.le_of_ble_eq_true rfl, Nat.le_of_ble_eq_true rfl⟩) (z_preVg (z_rc hK hP 2 1 rfl rfl) (z_preSg hK hP hG hS [2, 4] rfl)) rfl rfl hl.1 rfl (lv_room (Nat.le_of_ble_eq_true rfl)) dL_law_164 ⟨show 10 + (L / 6 - (k9 + 1)) * 60 ≤ 1200096 by omega, show 300 + (L / 6 - (k9 + 1)) * 2200 ≤ 5501386 by omega⟩) ?_
      refine lv_icmp_eq (tgt := 172) hx hb dL_law_167 (by decide) (fun _ => ?_) (fun c9 => absurd rfl c9)
      have hP := hP.sub (ws' := [(x, .inr (0, [.ref Lx, .ref (G 9)])), (Lx, .inl (G 1, 62, .inl xa)), (y, .inr (1, [.ref Ly, .ref Wy])), (Ly, .inl (G 0, 62, .inl ma)), (Wy, .inl (G 0, 0, .inl wf))]) [0, 1, 2, 3, 4] rfl
      have hD := hD.sub (ws' := [(x, .inr (0, [.ref Lx, .ref (G 9)])), (Lx, .inl (G 1, 62, .inl xa)), (y, .inr (1, [.ref Ly, .ref Wy])), (Ly, .inl (G 0, 62, .inl ma)), (Wy, .inl (G 0, 0, .inl wf))]) [0, 1, 2, 3, 4] (by decide) rfl
      refine W.widen (k := 10 + (L / 6 - k9) * 60) (n := 300 + (L / 6 - k9) * 2200) (show 10 + (L / 6 - (k9 + 1)) * 60 ≤ 10 + (L / 6 - k9) * 60 by omega) (show 300 + (L / 6 - (k9 + 1)) * 2200 ≤ 300 + (L / 6 - k9) * 2200 by omega) ?_
      refine lv_iinc (v := (nI (6 * (i + 1)))) (lv' := [(3, .int (nI (6 * (i + 1)))), (0, .ref b), (1, .ref x), (2, .ref y)]) hx hb dL_law_172 hl (k := 0) rfl ((nI_add (6 * i) 6).trans (congrArg nI (by omega))) (by decide) rfl (fun ls hl => ?_)
      refine lv_goto (tgt := 18) hx hb dL_law_175 (by decide) ?_
      exact ih H locs ls ⟨i + 1, Wy, xa, ma, wf, lt, by omega, hlt, hxa, hma, hP, hD, hS, lv_sub hl [0, 1, 2, 3] rfl⟩
set_option maxHeartbeats 4000000 in
set_option maxRecDepth 100000 in
/-- THE LAW, from its entry -/
theorem whole_start {p : Program} {e : Env} {s : State} {m : MethodId} {below : List Frame} {meth : Method} {c : Code} (l : Launch) (hflags : l.flags = flags0) {b L : Nat} {xs : Nat → Int32} (hL : L ≤ 288) (C0 : lw_At p s m meth c b L xs) : W p l e room_1 s m #[Value.ref b] below meth c s.heap [] 0 0 (lw_Z below #[Value.ref b] s) (entryFrame m ([Value.ref b] : List Value).toArray 4) := by
  obtain ⟨hx, hb, hr, hml, hown, hts0, hX, hbl, hlocks, hgv⟩ := id C0
  have hb : c.code = cL_law := hb
  have hts : ∀ w ∈ lw_all, w.before #[Value.ref b] s = true := fun w h => hts0 w (lw_all_tbl h)
  obtain ⟨D, G, hK, hG⟩ := z_world hts0 hgv
  obtain ⟨A, hAe⟩ : ∃ A : Nat → Prop, A = fun q => s.heap.size ≤ q := ⟨_, rfl⟩
  rw [← hAe] at hG
  have hA : ∀ q : Nat, s.heap.size ≤ q → A q := fun q h => by rw [hAe]; exact h
  have hS : va_S A s.heap s.heap [] := va_S.rf
  have hP : va_P D zCl [] s.heap := fun k q h => by simp at h
  have hD : va_D A [] := ⟨fun i j p q h => by simp at h, fun k q h => by simp at h⟩
  have hl := lv_entry ([.ref b]) (n := 4) (Nat.le_of_ble_eq_true rfl)
  rw [lg_entry_eq]
  generalize (lg_sl ([.ref b]) ++ List.replicate (4 - (lg_sl ([.ref b])).length) Slot.unset).toArray = ls at hl ⊢
  have hl : lv_has ls 4 [(0, .ref b)] := hl
  refine va_new (ci := 0) (fs := [.null, .null]) (C := RX0) (T := TX0) (N := 2) hx hb hts in_X0 tyX0 tyX0_ok hown (hts _ q20) (hts _ q21) (hts _ q2) hK hP hD hS hA rfl (fun j hj => by rcases (show j = 0 ∨ j = 1 by omega) with rfl | rfl <;> rfl) (Nat.le_of_ble_eq_true rfl) (Nat.le_of_ble_eq_true rfl) dL_law_0 (fun x H hP hD hS => ?_)
  have hP : va_P D zCl [(x, .inr (0, [.null, .null]))] H := hP
  have hD : va_D A [(x, .inr (0, [.null, .null]))] := hD
  refine W.widen (k := 1) (n := 2) (Nat.le_of_ble_eq_true rfl) (Nat.le_of_ble_eq_true rfl) ?_
  refine lv_dup hx hb dL_law_3 rfl ?_
  refine z_callv (wr := []) (va_runI (As := []) (rest := [.ref x]) ⟨hx, hb, hml, hown, hts⟩ (m_X0_init l D G  H.size) (cwI 0 hts (lw_meth q24) rfl rfl rfl (hts _ q2) (hts _ q22) (hts _ q23) rfl (by decide +kernel) ⟨Nat.le_of_ble_eq_true rfl, Nat.le_of_ble_eq_true rfl⟩) (z_preS hK hP hD hG hS hA [0] rfl (by decide)) rfl rfl hl.1 rfl (lv_room (Nat.le_of_ble_eq_true rfl)) dL_law_4 ⟨Nat.le_of_ble_eq_true rfl, Nat.le_of_ble_eq_true rfl⟩) hP hD hS hA [0] [] rfl rfl (by decide) (by decide) (fun Lx H locs hw hP hD hS => ?_)
  have hP : va_P D zCl [(x, .inr (0, [.ref Lx, .ref (G 9)])), (Lx, .inl (G 1, 62, .inl (fun _ => nI 0)))] H := hP
  have hD : va_D A [(x, .inr (0, [.ref Lx, .ref (G 9)])), (Lx, .inl (G 1, 62, .inl (fun _ => nI 0)))] := hD
  refine W.widen (k := 2) (n := 64) (Nat.le_of_ble_eq_true rfl) (Nat.le_of_ble_eq_true rfl) ?_
  refine lv_astore_n (lv' := [(1, .ref x), (0, .ref b)]) hx hb dL_law_7 rfl hl (by decide) rfl (fun ls hl => ?_)
  refine va_new (ci := 1) (fs := [.null, .null]) (C := RX1) (T := TX1) (N := 2) hx hb hts in_X1 tyX1 tyX1_ok hown (hts _ q537) (hts _ q538) (hts _ q3) hK hP hD hS hA rfl (fun j hj => by rcases (show j = 0 ∨ j = 1 by omega) with rfl | rfl <;> rfl) (Nat.le_of_ble_eq_true rfl) (Nat.le_of_ble_eq_true rfl) dL_law_8 (fun y H hP hD hS => ?_)
  have hP : va_P D zCl [(x, .inr (0, [.ref Lx, .ref (G 9)])), (Lx, .inl (G 1, 62, .inl (fun _ => nI 0))), (y, .inr (1, [.null, .null]))] H := hP
  have hD : va_D A [(x, .inr (0, [.ref Lx, .ref (G 9)])), (Lx, .inl (G 1, 62, .inl (fun _ => nI 0))), (y, .inr (1, [.null, .null]))] := hD
  refine W.widen (k := 3) (n := 66) (Nat.le_of_ble_eq_true rfl) (Nat.le_of_ble_eq_true rfl) ?_
  refine lv_dup hx hb dL_law_11 rfl ?_
  refine z_callv (wr := [(x, .inr (0, [.ref Lx, .ref (G 9)])), (Lx, .inl (G 1, 62, .inl (fun _ => nI 0)))]) (va_runI (As := []) (rest := [.ref y]) ⟨hx, hb, hml, hown, hts⟩ (m_X1_init l D G  H.size) (cwI 0 hts (lw_meth q541) rfl rfl rfl (hts _ q3) (hts _ q539) (hts _ q540) rfl (by decide +kernel) ⟨Nat.le_of_ble_eq_true rfl, Nat.le_of_ble_eq_true rfl⟩) (z_preS hK hP hD hG hS hA [2] rfl (by decide)) rfl rfl hl.1 rfl (lv_room (Nat.le_of_ble_eq_true rfl)) dL_law_12 ⟨Nat.le_of_ble_eq_true rfl, Nat.le_of_ble_eq_true rfl⟩) hP hD hS hA [2] [0, 1] rfl rfl (by decide) (by decide) (fun u H locs hw hP hD hS => ?_)
  obtain ⟨Ly, Wy⟩ := u
  have hP : va_P D zCl [(x, .inr (0, [.ref Lx, .ref (G 9)])), (Lx, .inl (G 1, 62, .inl (fun _ => nI 0))), (y, .inr (1, [.ref Ly, .ref Wy])), (Ly, .inl (G 0, 62, .inl (fun _ => nI 0))), (Wy, .inl (G 0, 0, .inl (fun _ => nI 0)))] H := hP
  have hD : va_D A [(x, .inr (0, [.ref Lx, .ref (G 9)])), (Lx, .inl (G 1, 62, .inl (fun _ => nI 0))), (y, .inr (1, [.ref Ly, .ref Wy])), (Ly, .inl (G 0, 62, .inl (fun _ => nI 0))), (Wy, .inl (G 0, 0, .inl (fun _ => nI 0)))] := hD
  refine W.widen (k := 5) (n := 128) (Nat.le_of_ble_eq_true rfl) (Nat.le_of_ble_eq_true rfl) ?_
  refine lv_astore_n (lv' := [(2, .ref y), (1, .ref x), (0, .ref b)]) hx hb dL_law_15 rfl hl (by decide) rfl (fun ls hl => ?_)
  refine lv_iconst (v := nI 0) hx hb dL_law_16 (by decide) ?_
  refine lv_istore_n (lv' := [(3, .int (nI 0)), (2, .ref y), (1, .ref x), (0, .ref b)]) hx hb dL_law_17 rfl hl (by decide) rfl (fun ls hl => ?_)
  refine W.widen (k := 10 + (L / 6 - (L / 6)) * 60) (n := 300 + (L / 6 - (L / 6)) * 2200) (by omega) (by omega) ?_
  have hP := hP.sub (ws' := [(x, .inr (0, [.ref Lx, .ref (G 9)])), (Lx, .inl (G 1, 62, .inl (fun _ => nI 0))), (y, .inr (1, [.ref Ly, .ref Wy])), (Ly, .inl (G 0, 62, .inl (fun _ => nI 0))), (Wy, .inl (G 0, 0, .inl (fun _ => nI 0)))]) [0, 1, 2, 3, 4] rfl
  have hD := hD.sub (ws' := [(x, .inr (0, [.ref Lx, .ref (G 9)])), (Lx, .inl (G 1, 62, .inl (fun _ => nI 0))), (y, .inr (1, [.ref Ly, .ref Wy])), (Ly, .inl (G 0, 62, .inl (fun _ => nI 0))), (Wy, .inl (G 0, 0, .inl (fun _ => nI 0)))]) [0, 1, 2, 3, 4] (by decide) rfl
  exact law_A hL C0 hAe hK hG (L / 6) ⟨0, Wy, fun _ => nI 0, fun _ => nI 0, fun _ => nI 0, fun _ => 0, by omega, fun _ => Nat.zero_lt_succ 255, fun _ _ => ⟨Nat.zero_lt_succ 255, rfl⟩, fun _ _ => ⟨Nat.zero_lt_succ 255, rfl⟩, hP, hD, hS, lv_sub hl [0, 3, 2, 1] rfl⟩
set_option maxHeartbeats 4000000 in
theorem lw_walk (l : Launch) (hflags : l.flags = flags0) (b : Addr) (xs : List Int32) : MetFree l x (headSpec (Jvm.Cond.code x code maxLocals ret :: tables_1) room_1) (lw_P b xs) (fun _ _ _ _ _ => True) lw_Q := by
  refine MetFree.of_bodyS (code := code) (maxLocals := maxLocals) (ret := ret) (by decide) ?_ ?_
  · intro args s m h hn
    obtain ⟨meth, c, h1, h2, h3, h4, h5, h6, -, -⟩ := Cond.code_spec hn (atoms_spec (ws := Jvm.Cond.code x code maxLocals ret :: tables_1) h _ List.mem_cons_self)
    exact ⟨meth, c, h1, h2, h3, h4, h5, h6⟩
  · intro p e s m args below meth c s₁ B hml0 hP _
    obtain ⟨rfl, hx, hbd, hgv⟩ := hP
    obtain ⟨scr, harrAt, hlist, hof, hsmall⟩ := hx
    obtain ⟨hcb, hkn, -, -⟩ := State.arrayAt?_spec harrAt
    have hown : s.vm.findClass R_law = some m.cls := findClass_of_methodNamed B.named
    have hts0 : ∀ c ∈ (Jvm.Cond.code x code maxLocals ret :: tables_1), c.before #[Value.ref b] s = true := atoms_spec (ws := Jvm.Cond.code x code maxLocals ret :: tables_1) B.pre
    have hts : ∀ w ∈ lw_tbl, w.before #[Value.ref b] s = true := lw_hts (k2_hts_sels lw_privs (fun w hw => hts0 w (List.mem_cons_of_mem _ hw)) lw_privs_ok)
    have hml : c.maxLocals = 4 := B.maxLocals_eq (hts0 _ List.mem_cons_self)
    have X₀ : Stand p l e room_1 s m #[Value.ref b] below meth c s₁ [] 0 0 := Stand.of_body B
    have hh0 : s₁.heap = s.heap := by rw [B.state]; rfl
    have hsz : scr.slots.size = xs.length := by rw [← Array.length_toList, hlist, List.length_map]
    have hval : ∀ j : Nat, j < xs.length → scr.slots[j]? = some (.int (xs.getD j 0)) := fun j hj => by
      rw [← Array.getElem?_toList, hlist]
      simp [hj]
    have hbl : b < s.heap.size := (Array.getElem?_eq_some_iff.mp hcb).1
    have hX : va_X b xs.length (fun j => xs.getD j 0) s s.heap := ⟨scr, hcb, hof, hkn, hsz, hval⟩
    have K : W p l e room_1 s m #[Value.ref b] below meth c s₁.heap [] 0 0 (lw_Z below #[Value.ref b] s) (entryFrame m ([Value.ref b] : List Value).toArray 4) := by
      rw [hh0]
      exact whole_start l hflags hbd ⟨B.exec, B.bytes, B.returns, hml, hown, hts, hX, hbl, B.notSynchronized, hgv⟩
    obtain ⟨t, a1, o, b1, b2, b3⟩ := K s₁ rfl X₀
    exact ⟨t, o, a1, b1, b2, b3⟩
theorem lw_pre_spec {args : Array Value} {s : State} (h : (Jvm.Cond.and given_1 narrow_1).before args s = true) (hr : rest_1_c.before args s = true) : ∃ (b : Addr) (xs : List Int32), lw_P b xs args s := by
  have hs := flat_of_before _ h
  have hq := flat_of_before _ hr
  have hc : (Cond.count 1).before args s = true := hs _ (by decide +kernel)
  have harr : (Cond.arrayOf (.arg 0) .int).before args s = true := hs _ (by decide +kernel)
  have hle : (Cond.le (.length (.arg 0)) (.int 288)).before args s = true := hs _ (by decide +kernel)
  have hlen : (Cond.isInt (.length (.arg 0))).before args s = true := hq _ (by decide +kernel)
  have hall : (Cond.all (.arg 0) (.isInt (.elem (.arg 0) (.index 0)))).before args s = true := hq _ (by decide +kernel)
  obtain ⟨b, xs, hb, hx⟩ := State.ints_of_pre rfl harr hlen hall
  have hsm : xs.length < 2 ^ 31 := hx.choose_spec.2.2.2
  have hev : (Term.length (.arg 0)).eval args s none [] s = some (.int xs.length.toInt32) := hx.length_eval hb
  have hv := Cond.le_ints hev (show (Term.int 288).eval args s none [] s = some (.int 288) from rfl)
  have hd : xs.length.toInt32 ≤ 288 := by
    simpa [Cond.before, Cond.holds, hv] using hle
  have hN : xs.length ≤ 288 := (Int32.ofNat_le_ofNat hsm (by decide)).mp (show Int32.ofNat xs.length ≤ Int32.ofNat 288 from hd)
  exact ⟨b, xs, Cond.one_arg hc (show args[0]? = some (.ref b) from hb), hx, hN, h⟩
theorem lw_comes (l : Launch) (hflags : l.flags = flags0) : Comes l x (Jvm.Cond.code x code maxLocals ret :: tables_1) room_1 (fun tb e args s => Calls_1 tb e args s ∧ rest_1 tb e args s ∧ Pre_1 tb e args s)
    (fun _ _ args s o t => lw_Q args s o t) := by
  intro p e ha hc hk s m args below hf hfit hheap happ hpre
  obtain ⟨b, xs, hP⟩ := lw_pre_spec hpre.2.2 hpre.2.1
  obtain ⟨k, o, h1, h2, h3, hQ⟩ := lw_walk l hflags b xs p e ha hc hk s m args below hf ((Spec.applies_iff_loose hf).mp happ).1 hP trivial
  exact ⟨k, o, h1, h2, h3, hQ⟩
theorem lw_frame {s t : State} {o : Outcome} {args : Array Value} (h : Framed s o t [] 1200096 5501386) :
    Framed s o t (fieldLocs frame_1_writes args s ++ arrayLocs frame_1_arrays args s ++ staticLocs frame_1_statics s) 1200096 5501386 := h
theorem lw_limb (L : Cond) (hL : ∀ (args : Array Value) (s t : State), L.after args s (.returned (some (.int 1))) t = true) :
    ArmFor flags0 classFile x code maxLocals ret World_1 tables_1 room_1 Calls_1 rest_1 Pre_1
      (fun tb e a s o t => postC L tb e a s o t ∧ Framed s o t (fieldLocs frame_1_writes a s ++ arrayLocs frame_1_arrays a s ++ staticLocs frame_1_statics s) 1200096 5501386) := by
  intro l hflags _ _ p e ha hc hk s m args below hf hfit hheap happ hpre
  obtain ⟨k, o, h1, h2, h3, rfl, hF⟩ := lw_comes l hflags p e ha hc hk s m args below hf hfit hheap happ hpre
  exact ⟨k, _, h1, h2, h3, hL args s _, lw_frame hF⟩
theorem i_vc : Claimed_1_1 ∧ Claimed_1_2 := ⟨lw_limb limb_1_1 (fun args s t => by simp [limb_1_1, Cond.after, Cond.holds, Cond.value]), lw_limb limb_1_2 (fun args s t => Cond.after_iff.mpr (by
  first | (rw [show limb_1_2 = Cond.eq .result (.int 1) from rfl, Cond.eq_ints (x := 1) (y := 1) rfl rfl]; simp; done) | (simp [limb_1_2, Cond.value, Term.eval]; done)))⟩
end
