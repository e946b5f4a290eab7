import PyProof.Rows.All
import Wide.All
import OpenK.AllK
import Wide.FinOn
import Lean
import PySem.Challenge.RW_xn0010_01
open PySem PySem.W PyProof.Rows
namespace Mine
section
open PySem PySem.W PyProof.Rows
set_option Elab.async false
set_option maxRecDepth 100000
set_option maxHeartbeats 8000000
theorem hd.tw1011335219593555734 : True := trivial
theorem hd.tw1013155817946168525 : True := trivial
theorem hd.tw10246146449241189800 : True := trivial
theorem hd.tw10258225898301398825 : True := trivial
theorem hd.tw10258999931320997221 : True := trivial
theorem hd.tw10328675519437393325 : True := trivial
theorem hd.tw10360471539772378328 : True := trivial
theorem hd.tw10403243965636340961 : True := trivial
theorem hd.tw10424393626065333798 : True := trivial
theorem hd.tw10458740792067480800 : True := trivial
theorem hd.tw10525666975642140466 : True := trivial
theorem hd.tw10601615944963115059 : True := trivial
theorem hd.tw10603584201595350602 : True := trivial
theorem hd.tw10614716105012338702 : True := trivial
theorem hd.tw10727248033764811480 : True := trivial
theorem hd.tw10752148897807903841 : True := trivial
theorem hd.tw10784824025267889561 : True := trivial
theorem hd.tw10792051664901133789 : True := trivial
theorem hd.tw10879034167726328663 : True := trivial
theorem hd.tw10889348797400549130 : True := trivial
theorem hd.tw10949625832625181284 : True := trivial
theorem hd.tw1097998534492414930 : True := trivial
theorem hd.tw11032806212648032379 : True := trivial
theorem hd.tw11054480109507316185 : True := trivial
theorem hd.tw11117797201346649052 : True := trivial
theorem hd.tw11210553801493137410 : True := trivial
theorem hd.tw11232374478483605306 : True := trivial
theorem hd.tw1129884963351977449 : True := trivial
theorem hd.tw11319892378374348655 : True := trivial
theorem hd.tw11389486352061984695 : True := trivial
theorem hd.tw11465210709893060100 : True := trivial
theorem hd.tw11652457597714270106 : True := trivial
theorem hd.tw11682748685660544111 : True := trivial
theorem hd.tw11893437276241958245 : True := trivial
theorem hd.tw11902302402261749642 : True := trivial
theorem hd.tw11917015161858427179 : True := trivial
theorem hd.tw11953376511379268794 : True := trivial
theorem hd.tw12023040214023829324 : True := trivial
theorem hd.tw12070051907170230399 : True := trivial
theorem hd.tw12092154237167983948 : True := trivial
theorem hd.tw12113243949977362033 : True := trivial
theorem hd.tw12173100003817136821 : True := trivial
theorem hd.tw12213352325604421381 : True := trivial
theorem hd.tw1222794163293265305 : True := trivial
theorem hd.tw12271959270614036898 : True := trivial
theorem hd.tw1241404454085649124 : True := trivial
theorem hd.tw12588582704262371052 : True := trivial
theorem hd.tw12598724348716800887 : True := trivial
theorem hd.tw12614811148066621264 : True := trivial
theorem hd.tw12901994302517312135 : True := trivial
theorem hd.tw12936449754285732098 : True := trivial
theorem hd.tw12949589719889679912 : True := trivial
theorem hd.tw13225837485096350037 : True := trivial
theorem hd.tw13368278939475635651 : True := trivial
theorem hd.tw13372043803930879067 : True := trivial
theorem hd.tw13483081372092288885 : True := trivial
theorem hd.tw1359830224848277088 : True := trivial
theorem hd.tw13753220567063992666 : True := trivial
theorem hd.tw13790719812936386609 : True := trivial
theorem hd.tw13828106393651249627 : True := trivial
theorem hd.tw1382963296337349011 : True := trivial
theorem hd.tw13903934854276604550 : True := trivial
theorem hd.tw13919464512627920130 : True := trivial
theorem hd.tw1413172679324656950 : True := trivial
theorem hd.tw14168552714766633299 : True := trivial
theorem hd.tw14176624398918483544 : True := trivial
theorem hd.tw14246236162039180721 : True := trivial
theorem hd.tw14330382018561344534 : True := trivial
theorem hd.tw14352634086879598012 : True := trivial
theorem hd.tw14353793391729792155 : True := trivial
theorem hd.tw1439246655266547700 : True := trivial
theorem hd.tw14560493823538711346 : True := trivial
theorem hd.tw14620637471214046174 : True := trivial
theorem hd.tw14705683404202351889 : True := trivial
theorem hd.tw14955159897011116063 : True := trivial
theorem hd.tw14960593345356199642 : True := trivial
theorem hd.tw15042006015671813226 : True := trivial
theorem hd.tw1506431575118746342 : True := trivial
theorem hd.tw15089522573102190283 : True := trivial
theorem hd.tw15103106377680225435 : True := trivial
theorem hd.tw15166520500009309586 : True := trivial
theorem hd.tw15238134620097496406 : True := trivial
theorem hd.tw15368132723985388332 : True := trivial
theorem hd.tw15411387601460861337 : True := trivial
theorem hd.tw15430367267962946696 : True := trivial
theorem hd.tw15529170255622000948 : True := trivial
theorem hd.tw15595854959937240912 : True := trivial
theorem hd.tw15615537253650120727 : True := trivial
theorem hd.tw15642763164714097627 : True := trivial
theorem hd.tw15759970867653108152 : True := trivial
theorem hd.tw15790720579355451973 : True := trivial
theorem hd.tw1580110805410547442 : True := trivial
theorem hd.tw15833661619300960221 : True := trivial
theorem hd.tw15837987909243819085 : True := trivial
theorem hd.tw1589133516308662214 : True := trivial
theorem hd.tw15967140613478806237 : True := trivial
theorem hd.tw15979992855486846200 : True := trivial
theorem hd.tw1600037746751723098 : True := trivial
theorem hd.tw16007149819294483003 : True := trivial
theorem hd.tw16056359734778111409 : True := trivial
theorem hd.tw16064382804478563927 : True := trivial
theorem hd.tw16194383521188589630 : True := trivial
theorem hd.tw163883453614787744 : True := trivial
theorem hd.tw16432713993328977331 : True := trivial
theorem hd.tw16477043939570097188 : True := trivial
theorem hd.tw16634568088961857937 : True := trivial
theorem hd.tw16772102934027710169 : True := trivial
theorem hd.tw16828841361933241965 : True := trivial
theorem hd.tw16868993833207775613 : True := trivial
theorem hd.tw16904818350239718627 : True := trivial
theorem hd.tw16945582573551092051 : True := trivial
theorem hd.tw16970440968685349367 : True := trivial
theorem hd.tw17047115858639842297 : True := trivial
theorem hd.tw17062030032774818151 : True := trivial
theorem hd.tw17087091549796120035 : True := trivial
theorem hd.tw17177331786930743035 : True := trivial
theorem hd.tw17183224562656869120 : True := trivial
theorem hd.tw17213754286329925777 : True := trivial
theorem hd.tw17252143746492648416 : True := trivial
theorem hd.tw17311223219408574766 : True := trivial
theorem hd.tw17317534308005170540 : True := trivial
theorem hd.tw17447410573909459338 : True := trivial
theorem hd.tw17542962492245011380 : True := trivial
theorem hd.tw17574625026820762457 : True := trivial
theorem hd.tw17599816209265215132 : True := trivial
theorem hd.tw1760603350576429475 : True := trivial
theorem hd.tw17650839729002327288 : True := trivial
theorem hd.tw17681399029576232318 : True := trivial
theorem hd.tw17714235663813219645 : True := trivial
theorem hd.tw1778080364554679531 : True := trivial
theorem hd.tw1784385830474605701 : True := trivial
theorem hd.tw17863302656999482806 : True := trivial
theorem hd.tw17893044597097874663 : True := trivial
theorem hd.tw17950676927832955104 : True := trivial
theorem hd.tw18093812233618175256 : True := trivial
theorem hd.tw18103342009636024947 : True := trivial
theorem hd.tw18166333605607142505 : True := trivial
theorem hd.tw18219297243305740317 : True := trivial
theorem hd.tw18227519186394308793 : True := trivial
theorem hd.tw18245042118932799458 : True := trivial
theorem hd.tw18264374347568628810 : True := trivial
theorem hd.tw18293732401869909652 : True := trivial
theorem hd.tw18293851220164018083 : True := trivial
theorem hd.tw18300207936620678264 : True := trivial
theorem hd.tw18343703819029505601 : True := trivial
theorem hd.tw1836080755315867724 : True := trivial
theorem hd.tw18433733373944582078 : True := trivial
theorem hd.tw1847840615245081061 : True := trivial
theorem hd.tw189712035060473897 : True := trivial
theorem hd.tw2068664650715991707 : True := trivial
theorem hd.tw2101469004524951375 : True := trivial
theorem hd.tw2114630138375439770 : True := trivial
theorem hd.tw212345690472687942 : True := trivial
theorem hd.tw2167537188350426706 : True := trivial
theorem hd.tw2195365466389143174 : True := trivial
theorem hd.tw2216850387143573719 : True := trivial
theorem hd.tw22551697357593593 : True := trivial
theorem hd.tw2274498078352570744 : True := trivial
theorem hd.tw2327210489368252092 : True := trivial
theorem hd.tw2386827423013361158 : True := trivial
theorem hd.tw2442259710966052079 : True := trivial
theorem hd.tw26425463804135960 : True := trivial
theorem hd.tw2674002104343415650 : True := trivial
theorem hd.tw2701402951725559080 : True := trivial
theorem hd.tw2867327485932766208 : True := trivial
theorem hd.tw2887051446865420828 : True := trivial
theorem hd.tw307737655149646647 : True := trivial
theorem hd.tw3182187488490625086 : True := trivial
theorem hd.tw3229955645248102723 : True := trivial
theorem hd.tw3451239065008710300 : True := trivial
theorem hd.tw3452082135128663414 : True := trivial
theorem hd.tw3462702350737211693 : True := trivial
theorem hd.tw3493717111155160527 : True := trivial
theorem hd.tw3530705653197291679 : True := trivial
theorem hd.tw3560358224912976901 : True := trivial
theorem hd.tw3646829019195819677 : True := trivial
theorem hd.tw3740922100787987374 : True := trivial
theorem hd.tw3759623122121258479 : True := trivial
theorem hd.tw3789350110615891812 : True := trivial
theorem hd.tw3795277891434052102 : True := trivial
theorem hd.tw3915529967508079626 : True := trivial
theorem hd.tw3919010098100093602 : True := trivial
theorem hd.tw4014540891139286612 : True := trivial
theorem hd.tw4025436138054765562 : True := trivial
theorem hd.tw402640490398009360 : True := trivial
theorem hd.tw4086058157674990017 : True := trivial
theorem hd.tw4172343393113369950 : True := trivial
theorem hd.tw4225703048834024713 : True := trivial
theorem hd.tw4360684699965382250 : True := trivial
theorem hd.tw4377701919642642989 : True := trivial
theorem hd.tw4402725079659364252 : True := trivial
theorem hd.tw4478166936697009375 : True := trivial
theorem hd.tw4478964076566166474 : True := trivial
theorem hd.tw4494801613693538912 : True := trivial
theorem hd.tw4551110910371200005 : True := trivial
theorem hd.tw4582214911144424667 : True := trivial
theorem hd.tw4702841417184801058 : True := trivial
theorem hd.tw4706079058837389440 : True := trivial
theorem hd.tw4846842124234013525 : True := trivial
theorem hd.tw4851647983119433812 : True := trivial
theorem hd.tw4877497464389501135 : True := trivial
theorem hd.tw49274679934790565 : True := trivial
theorem hd.tw4993660671451451078 : True := trivial
theorem hd.tw5130813555471234732 : True := trivial
theorem hd.tw5148922909946612681 : True := trivial
theorem hd.tw5190246844813560578 : True := trivial
theorem hd.tw5201384275714778543 : True := trivial
theorem hd.tw5278057926702712004 : True := trivial
theorem hd.tw5343241284826551009 : True := trivial
theorem hd.tw5367187694478559379 : True := trivial
theorem hd.tw5511420028821071320 : True := trivial
theorem hd.tw5567388512258382067 : True := trivial
theorem hd.tw5657824000916062451 : True := trivial
theorem hd.tw5781342201191254626 : True := trivial
theorem hd.tw5902613922787404954 : True := trivial
theorem hd.tw5961118342813265553 : True := trivial
theorem hd.tw5978321128707920903 : True := trivial
theorem hd.tw6060742912462422084 : True := trivial
theorem hd.tw6082411064634330575 : True := trivial
theorem hd.tw6123773746684550334 : True := trivial
theorem hd.tw6164396464334811476 : True := trivial
theorem hd.tw6196171512934965099 : True := trivial
theorem hd.tw6264232113106981867 : True := trivial
theorem hd.tw6276725880618359904 : True := trivial
theorem hd.tw6291416237084387574 : True := trivial
theorem hd.tw6293948785866598258 : True := trivial
theorem hd.tw6305734824756694309 : True := trivial
theorem hd.tw6394381022753523788 : True := trivial
theorem hd.tw6407587892757256292 : True := trivial
theorem hd.tw6411954120941647267 : True := trivial
theorem hd.tw6442067068224118133 : True := trivial
theorem hd.tw6551450704038468237 : True := trivial
theorem hd.tw658494146261299958 : True := trivial
theorem hd.tw6767318904944593275 : True := trivial
theorem hd.tw6785817131721698500 : True := trivial
theorem hd.tw6819123309680001836 : True := trivial
theorem hd.tw6820862383352777685 : True := trivial
theorem hd.tw6982297934935202809 : True := trivial
theorem hd.tw701787995468756871 : True := trivial
theorem hd.tw7023726343779634624 : True := trivial
theorem hd.tw7082855905992002993 : True := trivial
theorem hd.tw728884934406724761 : True := trivial
theorem hd.tw7289634563603522867 : True := trivial
theorem hd.tw7355570028127101125 : True := trivial
theorem hd.tw7510230149288206974 : True := trivial
theorem hd.tw7519716089354478335 : True := trivial
theorem hd.tw7540655947842036084 : True := trivial
theorem hd.tw758273949599710562 : True := trivial
theorem hd.tw7679452656841897225 : True := trivial
theorem hd.tw7752767780024739350 : True := trivial
theorem hd.tw7822882547125802209 : True := trivial
theorem hd.tw7914949630228597729 : True := trivial
theorem hd.tw7943647380988272828 : True := trivial
theorem hd.tw8047900516022102942 : True := trivial
theorem hd.tw8117029840178788049 : True := trivial
theorem hd.tw8228950375871286339 : True := trivial
theorem hd.tw8238929830477363962 : True := trivial
theorem hd.tw8268277133935991078 : True := trivial
theorem hd.tw8343274005884668182 : True := trivial
theorem hd.tw8458067239894703972 : True := trivial
theorem hd.tw8545014587354053640 : True := trivial
theorem hd.tw8671608845466749128 : True := trivial
theorem hd.tw8716120427605611371 : True := trivial
theorem hd.tw8727321023445011275 : True := trivial
theorem hd.tw8735263284916673568 : True := trivial
theorem hd.tw8977307856219701671 : True := trivial
theorem hd.tw9170477692918782315 : True := trivial
theorem hd.tw922143313871775805 : True := trivial
theorem hd.tw9277588360372424766 : True := trivial
theorem hd.tw9345676750909349944 : True := trivial
theorem hd.tw9345929723534960622 : True := trivial
theorem hd.tw9386895884608548742 : True := trivial
theorem hd.tw940411108121529565 : True := trivial
theorem hd.tw9421340871869096474 : True := trivial
theorem hd.tw9430268157657104642 : True := trivial
theorem hd.tw9434204838461420646 : True := trivial
theorem hd.tw9499510787657705874 : True := trivial
theorem hd.tw9641152695372364146 : True := trivial
theorem hd.tw9719896912496429819 : True := trivial
theorem hd.tw9741134391959003819 : True := trivial
theorem hd.tw9748044761591592747 : True := trivial
theorem hd.tw9783614193127449063 : True := trivial
theorem hd.tw978945382295711627 : True := trivial
theorem hd.tw9886212827616641653 : True := trivial
theorem hd.tw991583007596301734 : True := trivial
theorem hd.tw9960721518486171458 : True := trivial
set_option Elab.async true in
theorem hd : True := by
  let rec top : _ → PySem.Challenge.rw_xn0010_01.Holds := by
    intro h
    refine' @Function.const PySem.Challenge.rw_xn0010_01.Holds _ ?main9 ?hc
    rotate_left 2
    exact h
    w_on
    o_law
    k_head
    (case hw => w_witness2)
  trivial
theorem hd_done : (PySem.Challenge.rw_xn0010_01.Holds → True) → True := fun _ => (have := @hd.top; trivial)
end

section
open PySem PySem.W PyProof.Rows PySem.Spec PySem.Calls
set_option Elab.async false
set_option maxRecDepth 100000
set_option maxHeartbeats 8000000
noncomputable abbrev LS : List Str := looseW hd.view_1_40 [Str.ofString "EXACT_TOKEN_TYPES", Str.ofString "_Accumulator", Str.ofString "_quoted", Str.ofString "_paren_depth"]

/-- nothing is raised here: «never» in the stead of what an exception would meet keeps the walk's terms short -/
theorem wp_never {β : Type} {M : Model} {A : Around} {t : Sem β} {Q : β → Shared → Prop} {E : Value → Shared → Prop} {s : Shared} (h : wpAny M A t Q (fun _ _ => False) s) : wpAny M A t Q E s := wpAny_mono h (fun _ _ x => x) fun _ _ x => x.elim
/-- a formula's tree: a leaf 1 + k, a join by the sign w -/
inductive Tr where
  | leaf (k : Nat)
  | node (w : Nat) (l r : Tr)
noncomputable def Tr.leaves : Tr → Nat
  | .leaf _ => 1
  | .node _ l r => l.leaves + r.leaves
noncomputable def Tr.size : Tr → Nat
  | .leaf _ => 1
  | .node _ l r => l.size + r.size + 1
noncomputable def joined (k l r : Int) : Int := if k = 14 then l + r else if k = 15 then l - r else l * r
noncomputable def Tr.val : Tr → Int
  | .leaf k => k + 1
  | .node w l r => joined (14 + w) l.val r.val
noncomputable def Tr.need : Tr → Int
  | .leaf _ => 1
  | .node _ l r => max l.need r.need + (if l.need = r.need then 1 else 0)
/-- leaves below 15, signs below 3 -/
noncomputable def Tr.Good : Tr → Prop
  | .leaf k => k < 15
  | .node w l r => w < 3 ∧ l.Good ∧ r.Good
noncomputable def tupO (vs : List Value) (n : Nat) : Obj := { cls := .type "tuple", data := .seq vs.toArray n }
/-- the ledger bears the tree at v -/
inductive TreeIn (news : List (Addr × Obj)) : Value → Tr → Prop where
  | leaf {k : Nat} {t : Tok} : TreeIn news (.int (256 + (k : Int)) t) (.leaf k)
  | node {a : Addr} {w : Nat} {t : Tok} {vl vr : Value} {l r : Tr} {n : Nat} : (a, ({ cls := .type "tuple", data := .seq #[.int (14 + (w : Int)) t, vl, vr] n } : Obj)) ∈ news → TreeIn news vl l → TreeIn news vr r → TreeIn news (.ref a) (.node w l r)
theorem TreeIn.mono {news news' : List (Addr × Obj)} {v : Value} {t : Tr} (h : TreeIn news v t) (hs : ∀ p ∈ news, p ∈ news') : TreeIn news' v t := by
  induction h with
  | leaf => exact .leaf
  | node hm _ _ il ir => exact .node (hs _ hm) il ir
theorem Tr.size_pos : ∀ t : Tr, 1 ≤ t.size
  | .leaf _ => by simp [Tr.size]
  | .node _ _ _ => by simp [Tr.size]
theorem tg_l {w : Nat} {l r : Tr} (h : (Tr.node w l r).Good) : l.Good := h.2.1
theorem tg_r {w : Nat} {l r : Tr} (h : (Tr.node w l r).Good) : r.Good := h.2.2
theorem lt_ne {d : Addr} {l : List (Addr × Obj)} (h : AllLt d l) : ∀ p ∈ l, p.1 ≠ d := fun p hp => Nat.ne_of_lt (ktn_ltOf h p hp)
theorem off_ne {d : Addr} {o : Obj} {own l : List (Addr × Obj)} (h : OwnOff own (((d, o) :: l).map (·.1))) : ∀ p ∈ own, p.1 ≠ d := fun p hp => h p hp d (by simp)
theorem one_in {m : Str → Option Value} {a : Str} {va : Value} (h1 : m a = some va) : ∀ p ∈ [(a, va)], m p.1 = some p.2 := fun p hp => by
  rcases List.mem_singleton.mp hp with rfl; exact h1
theorem two_in {m : Str → Option Value} {a b : Str} {va vb : Value} (h1 : m a = some va) (h2 : m b = some vb) : ∀ p ∈ [(a, va), (b, vb)], m p.1 = some p.2 := fun p hp => by
  rcases List.mem_cons.mp hp with rfl | hp
  · exact h1
  · exact one_in h2 p hp
theorem out_int {i j : Int} {t : Tok} (h : i = j) : ∃ t', Value.int i t = .int j t' := ⟨t, by rw [h]⟩
theorem news_nil {h₀ h : Heap} {L : Addr} {news : List (Addr × Obj)} (N : News h₀ L h news) : News h₀ L h (news ++ []) := by rw [List.append_nil]; exact N
theorem shape2 {h₀ h : Heap} {L : Addr} {q x : Addr × Obj} {news t1 t2 : List (Addr × Obj)} (N : News h₀ L h (q :: (x :: news ++ t1 ++ t2))) : News h₀ L h (news ++ (q :: x :: (t1 ++ t2))) := fun p hp => N p (by
  simp only [List.mem_append, List.mem_cons] at hp ⊢
  rcases hp with h | h | h | h | h
  · exact .inr (.inl (.inl (.inr h)))
  · exact .inl h
  · exact .inr (.inl (.inl (.inl h)))
  · exact .inr (.inl (.inr h))
  · exact .inr (.inr h))
theorem order2 {q x : Addr × Obj} {news t1 t2 : List (Addr × Obj)} (h0 : ∀ p ∈ news, p.1 < x.1) (h1 : ∀ a ∈ x :: news, ∀ p ∈ t1, a.1 < p.1) (h2 : ∀ a ∈ x :: news ++ t1, ∀ p ∈ t2, a.1 < p.1) (h3 : ∀ p ∈ x :: news ++ t1 ++ t2, p.1 < q.1) : ∀ a ∈ news, ∀ p ∈ q :: x :: (t1 ++ t2), a.1 < p.1 := by
  intro a ha p hp
  simp only [List.mem_append, List.mem_cons] at hp
  rcases hp with rfl | rfl | h | h
  · exact h3 a (List.mem_append_left _ (List.mem_append_left _ (List.mem_cons_of_mem _ ha)))
  · exact h0 a ha
  · exact h1 a (List.mem_cons_of_mem _ ha) p h
  · exact h2 a (List.mem_append_left _ (List.mem_cons_of_mem _ ha)) p h
theorem sub2a {q x : Addr × Obj} {news t1 t2 : List (Addr × Obj)} : ∀ p ∈ x :: news ++ t1, p ∈ news ++ (q :: x :: (t1 ++ t2)) := fun p hp => by
  simp only [List.mem_append, List.mem_cons] at hp ⊢
  rcases hp with (h | h) | h
  · exact .inr (.inr (.inl h))
  · exact .inl h
  · exact .inr (.inr (.inr (.inl h)))
theorem sub2b {q x : Addr × Obj} {news t1 t2 : List (Addr × Obj)} : ∀ p ∈ x :: news ++ t1 ++ t2, p ∈ news ++ (q :: x :: (t1 ++ t2)) := fun p hp => by
  simp only [List.mem_append, List.mem_cons] at hp ⊢
  rcases hp with ((h | h) | h) | h
  · exact .inr (.inr (.inl h))
  · exact .inl h
  · exact .inr (.inr (.inr (.inl h)))
  · exact .inr (.inr (.inr (.inr h)))
section
variable {prog : Program} {w : World} {A : Around} {E : Value → Shared → Prop} {s : Shared} {h₀ : Heap} {L : Addr} {m : Str → Option Value} {news : List (Addr × Obj)}
theorem itI {value slice : PySem.Expr} {l : Addr} {vs : List Value} {ns : List Int} {n : Nat} {k : Int} {u : Tok} {Q : Value → Shared → Prop} (N : News h₀ L s.heap news) (hm : (l, listOf vs.toArray n) ∈ news) (hi : IntsAre vs ns)
    (h0 : 0 ≤ k) (h1 : k < ns.length) (hfit : k < 2 ^ 63) (h : ∀ t, Q (.int (ns.getD k.toNat 0) t) s)
    (hs : subscripted slice false (.ref l) (.int k u) = operate [.ref l, .int k u] (getItem (.ref l) (.int k u)) := by with_unfolding_all rfl) :
    wpAny (model prog w) A (subscriptTail value slice (.ref l) (.int k u)) Q E s :=
  item_list_intsR (N.isList hm) hi h0 h1 hfit h hs
theorem appL {D : Addr} {vs : List Value} {n : Nat} {x : Value} {news' : List (Addr × Obj)} {Q : Value → Shared → Prop} (F : Fr h₀ L s.heap m) (N : News h₀ L s.heap news) (U : Upd D (listOf vs.toArray n) (listOf (vs ++ [x]).toArray (n + 1)) news news') (hsz : vs.length ≤ 10000)
    (h : ∀ h', Fr h₀ L h' m → News h₀ L h' news' → Q .none { s with heap := h' }) : wpAny (model prog w) A (call (.builtin "list.append") [.ref D, x]) Q E s :=
  append_K F N (by rw [List.push_toArray]; exact U) h (by rw [List.size_toArray]; unfold sizeLine; omega)
end

noncomputable def Tr.toks : Tr → Int → List (Int × Int)
  | .leaf k, d => [(256 + (k : Int), d)]
  | .node w l r, d => (7, d + 1) :: (l.toks (d + 1) ++ (14 + (w : Int), d + 1) :: (r.toks (d + 1) ++ [(8, d)]))
theorem toks_ge : ∀ (t : Tr) (d : Int), ∀ p ∈ t.toks d, d ≤ p.2
  | .leaf k, d, p, h => by simp [Tr.toks] at h; subst h; exact Int.le_refl _
  | .node w l r, d, p, h => by
    simp only [Tr.toks, List.mem_cons, List.mem_append, List.not_mem_nil, or_false] at h
    rcases h with rfl | h | rfl | h | rfl
    · show d ≤ d + 1; omega
    · have := toks_ge l _ p h; omega
    · show d ≤ d + 1; omega
    · have := toks_ge r _ p h; omega
    · exact Int.le_refl _
noncomputable def sgnP (d : Int) (p : Int × Int) : Bool := decide (p.2 = d) && (decide (p.1 < 256) && (decide (p.1 ≠ 7) && decide (p.1 ≠ 8)))
theorem toks_sgn : ∀ (t : Tr) (d : Int), ∀ p ∈ t.toks d, sgnP d p = false
  | .leaf k, d, p, h => by
    simp [Tr.toks] at h; subst h
    have h1 : ¬ ((256 : Int) + (k : Int) < 256) := by omega
    simp [sgnP, h1]
  | .node w l r, d, p, h => by
    have off : d + 1 ≤ p.2 → sgnP d p = false := fun h => by
      have h1 : ¬ (p.2 = d) := by omega
      simp [sgnP, h1]
    simp only [Tr.toks, List.mem_cons, List.mem_append, List.not_mem_nil, or_false] at h
    rcases h with rfl | h | rfl | h | rfl
    · exact off (Int.le_refl _)
    · exact off (toks_ge l _ p h)
    · exact off (Int.le_refl _)
    · exact off (toks_ge r _ p h)
    · simp [sgnP]
/-- the places, from a on, of the items with q -/
noncomputable def idxs {α : Type} (q : α → Bool) : Int → List α → List Int
  | _, [] => []
  | a, x :: r => if q x = true then a :: idxs q (a + 1) r else idxs q (a + 1) r
theorem idxs_append {α : Type} (q : α → Bool) : ∀ (xs ys : List α) (a : Int), idxs q a (xs ++ ys) = idxs q a xs ++ idxs q (a + (xs.length : Int)) ys
  | [], ys, a => by simp [idxs]
  | x :: xs, ys, a => by
    have e : a + (((x :: xs).length : Nat) : Int) = a + 1 + (xs.length : Int) := by simp only [List.length_cons]; omega
    rw [e, List.cons_append]
    simp only [idxs]
    rw [idxs_append q xs ys (a + 1)]
    split <;> rfl
theorem idxs_none {α : Type} (q : α → Bool) : ∀ (xs : List α) (a : Int), (∀ x ∈ xs, q x = false) → idxs q a xs = []
  | [], _, _ => rfl
  | x :: xs, a, h => by
    simp only [idxs]
    rw [if_neg (by rw [h x (.head _)]; decide)]
    exact idxs_none q xs _ fun y hy => h y (.tail _ hy)
theorem rangeKs_succ (a : Int) (n : Nat) : rangeKs a (n + 1) = a :: rangeKs (a + 1) n := by
  unfold rangeKs
  rw [List.range_succ_eq_map, List.map_cons, List.map_map]
  congr 1
  · simp
  · apply List.map_congr_left
    intro i _
    simp only [Function.comp]
    omega
theorem filter_idxs {α : Type} (q : α → Bool) : ∀ (xs : List α) (a : Int) (p : Int → Bool), (∀ (i : Nat) x, xs[i]? = some x → p (a + (i : Int)) = q x) → (rangeKs a xs.length).filter p = idxs q a xs
  | [], a, p, h => by simp [rangeKs, idxs]
  | x :: xs, a, p, h => by
    rw [List.length_cons, rangeKs_succ, List.filter_cons]
    have h0 := h 0 x rfl
    have h0' : p a = q x := by simpa using h0
    have ih := filter_idxs q xs (a + 1) p fun i y hy => by
      have := h (i + 1) y (by simpa using hy)
      rw [← this]; congr 1; omega
    rw [ih, h0']
    simp only [idxs]
structure Seg where
  t : Tr
  d : Int
  pre : List (Int × Int)
  post : List (Int × Int)
noncomputable def Seg.all (g : Seg) : List (Int × Int) := g.pre ++ (g.t.toks g.d ++ g.post)
noncomputable def Seg.len (g : Seg) : Nat := (g.t.toks g.d).length
noncomputable def Seg.sgn (g : Seg) (k : Int) : Bool := decide ((g.all.map (·.2)).getD k.toNat 0 = (g.all.map (·.2)).getD (g.pre.length : Int).toNat 0) && (decide ((g.all.map (·.1)).getD k.toNat 0 < 256) && !([7, 8].any fun x => x == (g.all.map (·.1)).getD k.toNat 0))
theorem sgn_yes {g : Seg} {k : Int} (h1 : (g.all.map (·.2)).getD k.toNat 0 = (g.all.map (·.2)).getD (g.pre.length : Int).toNat 0) (h2 : (g.all.map (·.1)).getD k.toNat 0 < 256) (h3 : ([7, 8].any fun x => x == (g.all.map (·.1)).getD k.toNat 0) = false) : g.sgn k = true := by
  unfold Seg.sgn; rw [decide_eq_true h1, decide_eq_true h2, h3]; rfl
theorem sgn_no1 {g : Seg} {k : Int} (h1 : (g.all.map (·.2)).getD k.toNat 0 ≠ (g.all.map (·.2)).getD (g.pre.length : Int).toNat 0) : g.sgn k = false := by
  unfold Seg.sgn; rw [decide_eq_false h1]; rfl
theorem sgn_no2 {g : Seg} {k : Int} (h2 : ¬ (g.all.map (·.1)).getD k.toNat 0 < 256) : g.sgn k = false := by
  unfold Seg.sgn; rw [decide_eq_false h2, Bool.false_and, Bool.and_false]
theorem sgn_no3 {g : Seg} {k : Int} (h3 : ([7, 8].any fun x => x == (g.all.map (·.1)).getD k.toNat 0) = true) : g.sgn k = false := by
  unfold Seg.sgn; rw [h3, Bool.not_true, Bool.and_false, Bool.and_false]
theorem filter_yes {p : Int → Bool} {l : List Int} {k : Int} {vs : List Value} {t : Tok} (hi : IntsAre vs (l.filter p)) (h : p k = true) : IntsAre (vs ++ [.int k t]) ((l ++ [k]).filter p) := by
  rw [List.filter_append, List.filter_cons, if_pos h]; exact hi.append (.cons _ _ .nil)
theorem filter_no {p : Int → Bool} {l : List Int} {k : Int} {vs : List Value} (hi : IntsAre vs (l.filter p)) (h : p k = false) : IntsAre vs ((l ++ [k]).filter p) := by
  rw [List.filter_append, List.filter_cons, if_neg (by rw [h]; decide), List.filter_nil, List.append_nil]; exact hi
theorem ints_one {vs : List Value} {c : Int} (h : IntsAre vs [c]) : ∃ t, vs = [.int c t] := by
  cases h with
  | cons n t r => cases r; exact ⟨t, rfl⟩
theorem sgn_only {w : Nat} {l r : Tr} {d : Int} {pre post : List (Int × Int)} (hw : w < 3) {n : Nat} (hn : n = Seg.len ⟨.node w l r, d, pre, post⟩) :
    (rangeKs (pre.length : Int) n).filter (Seg.sgn ⟨.node w l r, d, pre, post⟩) = [(pre.length : Int) + 1 + ((l.toks (d + 1)).length : Int)] := by
  subst hn
  have h := filter_idxs (sgnP (d + 1)) ((Tr.node w l r).toks d) (pre.length : Int) (Seg.sgn ⟨.node w l r, d, pre, post⟩) (fun i x hx => by
    have hi : i < ((Tr.node w l r).toks d).length := by
      rcases Nat.lt_or_ge i ((Tr.node w l r).toks d).length with h | h
      · exact h
      · rw [List.getElem?_eq_none h] at hx; cases hx
    have e1 : ((pre.length : Int) + (i : Int)).toNat = pre.length + i := by omega
    have e2 : (Seg.all ⟨.node w l r, d, pre, post⟩)[pre.length + i]? = some x := by
      show (pre ++ ((Tr.node w l r).toks d ++ post))[pre.length + i]? = some x
      rw [List.getElem?_append_right (Nat.le_add_right _ _), Nat.add_sub_cancel_left, List.getElem?_append_left hi]
      exact hx
    have e3 : (Seg.all ⟨.node w l r, d, pre, post⟩)[pre.length]? = some (7, d + 1) := by
      show (pre ++ ((Tr.node w l r).toks d ++ post))[pre.length]? = some (7, d + 1)
      rw [List.getElem?_append_right (Nat.le_refl _), Nat.sub_self]
      rfl
    have e4 : ((Seg.pre ⟨.node w l r, d, pre, post⟩).length : Int).toNat = pre.length := Int.toNat_natCast _
    unfold Seg.sgn sgnP
    rw [e1, e4]
    simp only [List.getD_eq_getElem?_getD, List.getElem?_map, e2, e3, Option.map_some, Option.getD_some, List.any_cons, List.any_nil, Bool.or_false, Bool.not_or]
    congr 2
    congr 1
    · by_cases h : x.1 = 7
      · simp [h]
      · have h' : ¬ (7 = x.1) := fun e => h e.symm
        simp [h, h']
    · by_cases h : x.1 = 8
      · simp [h]
      · have h' : ¬ (8 = x.1) := fun e => h e.symm
        simp [h, h'])
  unfold Seg.len
  rw [h]
  have hop : sgnP (d + 1) (14 + (w : Int), d + 1) = true := by
    have h1 : (14 : Int) + w < 256 := by omega
    have h2 : ¬ ((14 : Int) + w = 7) := by omega
    have h3 : ¬ ((14 : Int) + w = 8) := by omega
    simp [sgnP, h1, h2, h3]
  have hcl : sgnP (d + 1) (8, d) = false := by
    have h1 : ¬ (d = d + 1) := by omega
    simp [sgnP, h1]
  have hopn : sgnP (d + 1) (7, d + 1) = false := by simp [sgnP]
  show idxs _ _ ((7, d + 1) :: (l.toks (d + 1) ++ (14 + (w : Int), d + 1) :: (r.toks (d + 1) ++ [(8, d)]))) = _
  simp only [idxs, hopn, Bool.false_eq_true, if_false]
  rw [idxs_append, idxs_none _ _ _ (toks_sgn l _)]
  simp only [idxs, hop, if_true, List.nil_append]
  rw [idxs_append, idxs_none _ _ _ (toks_sgn r _)]
  simp only [idxs, hcl, Bool.false_eq_true, if_false, List.nil_append]

/-- a loop over a range that fills one list of ints by a test -/
noncomputable def RfPost (h₀ : Heap) (L l : Addr) (x : Str) (m₀ : Str → Option Value) (news own : List (Addr × Obj)) (ks : List Int) (s₁ : Shared) (Q : Flow → Shared → Prop) (f : Flow) (s₂ : Shared) : Prop :=
  match f with
  | .ret v => Q (.ret v) s₂
  | .brk => Q .next s₂
  | _ => ∃ h' tk m' vs n, s₂ = { s₁ with heap := h', toks := tk } ∧ Fr h₀ L h' m' ∧ News h₀ L h' ((l, listOf vs.toArray n) :: (news ++ own)) ∧ IntsAre vs ks ∧ ∀ z, z ≠ x → m' z = m₀ z
theorem RfPost.next {h₀ : Heap} {L l : Addr} {x : Str} {m₀ : Str → Option Value} {news own : List (Addr × Obj)} {ks : List Int} {s₁ : Shared} {Q : Flow → Shared → Prop} {h' : Heap} {tk : Nat} {m' : Str → Option Value} {vs : List Value} {n : Nat} {led : List (Addr × Obj)}
    (F : Fr h₀ L h' m') (N : News h₀ L h' led) (hs : ∀ p ∈ (l, listOf vs.toArray n) :: (news ++ own), p ∈ led) (hi : IntsAre vs ks) (hm : ∀ z, z ≠ x → m' z = m₀ z) : RfPost h₀ L l x m₀ news own ks s₁ Q .next { s₁ with heap := h', toks := tk } :=
  ⟨h', tk, m', vs, n, rfl, F, fun p hp => N p (hs p hp), hi, hm⟩
structure RfSt where
  sg : List Int
  vs : List Value
  n : Nat
section
variable {prog : Program} {w : World} {A : Around} {E : Value → Shared → Prop} {s : Shared} {env : Env} {h₀ : Heap} {x : Str} {body : List Stmt} {Q : Flow → Shared → Prop}
theorem range_fill {r l L : Addr} {a₀ b₀ : Int} {t₀ u₀ v₀ : Tok} {m₀ : Str → Option Value} {news : List (Addr × Obj)} (p : Int → Bool)
    (hh : A.handled = none) (hr : IsRange s.heap r a₀ b₀ 1 t₀ u₀ v₀) (hsmall : Builtin.Range.small a₀ b₀ 1 = true) (F : Fr h₀ L s.heap m₀) (N : News h₀ L s.heap ((l, listOf #[] 0) :: news)) (hLe : env.locals = L)
    (turn : ∀ pre k t vs n h tk own, k = a₀ + ((List.length pre : Nat) : Int) → pre.length < (b₀ - a₀).toNat → a₀ ≤ k → k < b₀ → (∀ q ∈ own, q.1 ≠ l) → IntsAre vs (pre.filter p) → vs.length ≤ pre.length →
      Fr h₀ L h (fun y => if y = x then some (.int k t) else m₀ y) → News h₀ L h ((l, listOf vs.toArray n) :: (news ++ own)) →
      wpAny (model prog w) A (execs body env) (RfPost h₀ L l x m₀ news own ((pre ++ [k]).filter p) { s with heap := h, toks := tk } Q) E { s with heap := h, toks := tk })
    (done : ∀ (u : Str → Option Value) vs n h tk, IntsAre vs ((rangeKs a₀ (b₀ - a₀).toNat).filter p) → Fr h₀ L h (fun y => if y = x then u y else m₀ y) → News h₀ L h ((l, listOf vs.toArray n) :: news) → Q .next { s with heap := h, toks := tk }) :
    wpAny (model prog w) A (pyIter (.ref r)) (fun it s₂ => LoopAtV prog w A h₀ env x body Q E it s₂) E s := by
  subst hLe
  refine kst_range (σ := RfSt) (fun c => (l, listOf c.vs.toArray c.n) :: news) (fun _ => []) (fun _ => True) [] (fun pre c => IntsAre c.vs (pre.filter p)) ⟨[], [], 0⟩ hh hr hsmall (rangeSize_nat _ _) F N trivial (fun _ h => nomatch h) .nil ?_ ?_
  · intro c pre k t u h tk own hk hlt hoff _ hc F5 N5
    have N6 : News h₀ env.locals h ((l, listOf c.vs.toArray c.n) :: (news ++ own)) := N5
    refine wpAny_mono (turn pre k t c.vs c.n h tk own hk hlt (by rw [hk]; exact Int.le_add_of_nonneg_right (Int.natCast_nonneg _)) (by omega) (fun q hq => hoff q hq l (by simp)) hc (by rw [hc.length]; exact List.length_filter_le _ _) F5 N6) (fun f s₂ q => ?_) fun _ _ e => e
    have fin : (∃ h' tk' m' vs n, s₂ = { ({ s with heap := h, toks := tk } : Shared) with heap := h', toks := tk' } ∧ Fr h₀ env.locals h' m' ∧ News h₀ env.locals h' ((l, listOf vs.toArray n) :: (news ++ own)) ∧ IntsAre vs ((pre ++ [k]).filter p) ∧ ∀ z, z ≠ x → m' z = m₀ z) →
        InvEndN h₀ env.locals (KstS (σ := RfSt) (fun c => (l, listOf c.vs.toArray c.n) :: news) (fun _ => []) (fun _ => True) x [] m₀ (fun pre c => IntsAre c.vs (pre.filter p)) (pre ++ [k])) own (((l, listOf #[] 0) :: news).map (·.1)) { s with heap := h, toks := tk } s₂ := by
      rintro ⟨h', tk', m', vs, n, rfl, F', N', hi, hm⟩
      exact InvEndN.intro F' N' ⟨⟨[], vs, n⟩, rfl, trivial, (fun _ h => nomatch h), (fun z hz _ _ => hm z hz), hi⟩ rfl (fun q hq => by rcases List.mem_cons.mp hq with rfl | hq; exact .head _; exact .tail _ (List.mem_append.mpr (.inl hq))) (fun q hq => .tail _ (List.mem_append.mpr (.inr hq)))
    cases f with
    | ret v => exact q
    | brk => exact q
    | next => exact fin q
    | cont => exact fin q
  · intro c u h tk _ hc F5 N5
    exact done u c.vs c.n h tk hc F5 N5
end
end

local macro_rules | `(tactic| walk_at $s:str) => `(tactic| k_extra $s)
local macro_rules | `(tactic| walk_at "eval Call") => `(tactic| k_dflt (refine Call_ ?_))
local macro_rules | `(tactic| ktr_rel) => `(tactic| k_extra "own_ktr_rel")
local macro_rules | `(tactic| k_all) => `(tactic| first | assumption | exact lt_ne (by assumption) | exact off_ne (by assumption) | exact List.forall_mem_nil _ | ((with_reducible refine List.forall_mem_append.mpr ⟨?a9, ?b9⟩); (case a9 => k_all); (case b9 => k_all)) | ((with_reducible refine List.forall_mem_cons.mpr ⟨?a9, ?b9⟩); (case a9 => k_ne); (case b9 => k_all)) | k_extra "own_k_all")
local macro_rules | `(tactic| k_mem) => `(tactic| first | assumption | exact List.mem_cons_self | ((with_reducible refine List.mem_cons_of_mem _ ?_); k_mem) | ((with_reducible refine List.mem_append.mpr (Or.inl ?_)); k_mem) | ((with_reducible refine List.mem_append.mpr (Or.inr ?_)); k_mem))
section
open PySem PySem.W PyProof.Rows PySem.Spec PySem.Calls
set_option Elab.async false
set_option linter.all false
theorem pow15_ge : ∀ n, 1 ≤ n → 15 ≤ 15 ^ n
  | 0, h => absurd h (by decide)
  | n + 1, _ => by
    have : 1 ≤ 15 ^ n := Nat.pos_of_ne_zero (by simp)
    rw [Nat.pow_succ]; omega
theorem leaves_pos : ∀ t : Tr, 1 ≤ t.leaves
  | .leaf _ => Nat.le_refl _
  | .node _ l r => Nat.le_trans (leaves_pos l) (Nat.le_add_right _ _)
theorem joined_abs {k l r : Int} {a b : Nat} (hl : l.natAbs ≤ a) (hr : r.natAbs ≤ b) (ha : 2 ≤ a) (hb : 2 ≤ b) : (joined k l r).natAbs ≤ a * b := by
  have h2 : a + b ≤ a * b := Nat.add_le_mul ha hb
  have h3 : l.natAbs + r.natAbs ≤ a + b := Nat.add_le_add hl hr
  unfold joined
  split
  · exact Nat.le_trans (Int.natAbs_add_le _ _) (Nat.le_trans h3 h2)
  · split
    · exact Nat.le_trans (Int.natAbs_sub_le _ _) (Nat.le_trans h3 h2)
    · rw [Int.natAbs_mul]; exact Nat.mul_le_mul hl hr
theorem val_bound : ∀ t : Tr, t.Good → t.val.natAbs ≤ 15 ^ t.leaves
  | .leaf k, h => by
    have : k < 15 := h
    show ((k : Int) + 1).natAbs ≤ 15 ^ 1
    omega
  | .node w l r, h => by
    have hl := val_bound l h.2.1
    have hr := val_bound r h.2.2
    have := joined_abs (k := 14 + (w : Int)) hl hr (Nat.le_trans (by decide) (pow15_ge _ (leaves_pos l))) (Nat.le_trans (by decide) (pow15_ge _ (leaves_pos r)))
    show (joined (14 + (w : Int)) l.val r.val).natAbs ≤ 15 ^ (l.leaves + r.leaves)
    rw [Nat.pow_add]
    exact this
theorem val_small {t : Tr} (h : t.Good) (hl : t.leaves ≤ 5) : -1048576 ≤ t.val ∧ t.val ≤ 1048576 ∧ t.val.natAbs < 16 ^ 6 := by
  have h1 := val_bound t h
  have h2 : 15 ^ t.leaves ≤ 15 ^ 5 := Nat.pow_le_pow_right (by decide) hl
  have h3 : (15 : Nat) ^ 5 = 759375 := by decide
  have h4 : (16 : Nat) ^ 6 = 16777216 := by decide
  omega
end

section
open PySem PySem.W PyProof.Rows PySem.Spec PySem.Calls
set_option Elab.async false
set_option maxRecDepth 100000
set_option maxHeartbeats 8000000
set_option linter.all false
theorem fresh_E3 {prog : Program} {w : World} {A : Around} {E : Value → Shared → Prop} {s : Shared} {Q : Value → Shared → Prop} (h : wpAny (model prog w) A (call (.int 0 0) []) Q E s) : wpAny (model prog w) A (call (.int 0 0) []) Q E s := by
  k_with_none
  w_top off
  first | (walk1; fail) | exact h
structure JD where
  kind : Int
  l : Int
  r : Int
inductive JRel : List (Addr × Obj) → List Value → JD → Prop
  | mk {news : List (Addr × Obj)} {k l r : Int} {t1 t2 t3 : Tok} : JRel news [.int k t1, .int l t2, .int r t3] ⟨k, l, r⟩
noncomputable abbrev joinedT : ToldN JD where
  Rel := JRel
  Ok := fun d => -1048576 ≤ d.l ∧ d.l ≤ 1048576 ∧ -1048576 ≤ d.r ∧ d.r ≤ 1048576
  size := fun _ => 1
  Tl := fun tl => tl = []
  Out := fun _ r d => ∃ t, r = .int (joined d.kind d.l d.r) t

theorem mul_ok {a b : Int} (h1 : -1048576 ≤ a) (h2 : a ≤ 1048576) : PySem.IntMulOk a b := PySem.IntMulOk.of_left (PySem.intBits_le_64 (by omega) (by omega))
theorem joined_ct (w : World) (mean : ExcName → Option Value) (mg mb : Str → Option Value) : ∀ d, TellsN PySem.Challenge.rw_xn0010_01.row.prog w (hd.heap_1_39 w.params) hd.view_1_40 LS mean mg mb 197 joinedT d := by
  w_on
  k_fill
  intro d
  unfold TellsN
  intro dp un gd cn cs a ccd cl outer A₀ base h₀ L m news s vs Q E B F X N T hk hR hok hd hu hret
  cases hR
  dsimp only [joinedT] at hok hd hu hret
  refine wpAny_call ?_
  k_dflt ktr_enter
  refine wp_never ?_
  k_with "binaryOp Mult int int" => refine PySem.mul_0 ?_ (mul_ok hok.1 hok.2.1)
  k_steps
  · exact hret _ [] _ _ (by k_asm) (news_nil (by k_asm)) ktn_ord0 rfl (out_int (by unfold joined; rw [if_pos (by assumption)]))
  · exact hret _ [] _ _ (by k_asm) (news_nil (by k_asm)) ktn_ord0 rfl (out_int (by unfold joined; rw [if_neg (by assumption), if_pos (by assumption)]))
  · exact hret _ [] _ _ (by k_asm) (news_nil (by k_asm)) ktn_ord0 rfl (out_int (by unfold joined; rw [if_neg (by assumption), if_neg (by assumption)]))

inductive TreeArg (news : List (Addr × Obj)) : List Value → Tr → Prop where
  | mk {v : Value} {t : Tr} : TreeIn news v t → TreeArg news [v] t
inductive NeedOut (news : List (Addr × Obj)) : Value → Tr → Prop where
  | mk {a : Addr} {t : Tr} {t1 t2 : Tok} {n : Nat} : (a, ({ cls := .type "tuple", data := .seq #[.int t.val t1, .int t.need t2] n } : Obj)) ∈ news → NeedOut news (.ref a) t
noncomputable abbrev needsT : ToldN Tr where
  Rel := TreeArg
  Ok := fun t => t.Good ∧ t.leaves ≤ 5
  size := Tr.size
  Tl := ktnAny
  Out := NeedOut
theorem NeedOut.of {news : List (Addr × Obj)} {a : Addr} {t : Tr} {x y : Int} {t1 t2 : Tok} {n : Nat} (h : (a, ({ cls := .type "tuple", data := .seq #[.int x t1, .int y t2] n } : Obj)) ∈ news) (hx : x = t.val) (hy : y = t.need) : NeedOut news (.ref a) t := by
  subst hx; subst hy; exact .mk h
theorem need_ne {a b : Int} (h : a ≠ b) : (if b > a then b else a) + 0 = max a b + (if a = b then 1 else 0) := by
  rw [if_neg h, Int.max_def]
  by_cases g : a < b
  · rw [if_pos g, if_pos (Int.le_of_lt g)]
  · rw [if_neg g, if_neg (fun q => g (Int.lt_iff_le_and_ne.mpr ⟨q, h⟩))]
theorem need_eq {a b : Int} (h : a = b) : (if b > a then b else a) + 1 = max a b + (if a = b then 1 else 0) := by
  subst h
  rw [if_pos rfl, if_neg (Int.lt_irrefl _), Int.max_self]
theorem line_E3_1 : True := by
  k_with "own_ktr_rel" => (exact NeedOut.of ktn_new (by first | rfl | (simp only [Tr.val]; omega)) (by first | rfl | (simp only [Tr.need]; first | exact need_ne (by assumption) | exact need_eq (by assumption) | omega | (split <;> omega))))
  trivial
theorem needs_ct (w : World) (mean : ExcName → Option Value) (mg mb : Str → Option Value) : ∀ d, TellsN PySem.Challenge.rw_xn0010_01.row.prog w (hd.heap_1_39 w.params) hd.view_1_40 LS mean mg mb 204 needsT d := by
  w_on
  k_fill
  refine tellsN_of fun d IH => ?_
  have JC := joined_ct w mean mg mb
  unfold TellsN
  intro dp un gd cn cs a ccd cl outer A₀ base h₀ L m news s vs Q E B F X N T hk hR hok hd hu hret
  obtain @⟨v, t, hR⟩ := hR
  obtain _ | @⟨a1, w1, t1, vl, vr, l, r, n1, hm, hl, hr⟩ := hR
  · refine wpAny_call ?_
    k_dflt ktr_enter
    refine wp_never ?_
    k_steps
    ktn_end hret
  · have hlv := hok.2
    simp only [Tr.leaves] at hlv
    have ok1 : l.Good ∧ l.leaves ≤ 5 := ⟨tg_l hok.1, by omega⟩
    have ok2 : r.Good ∧ r.leaves ≤ 5 := ⟨tg_r hok.1, by omega⟩
    have hs1 := l.size_pos
    have hs2 := r.size_pos
    have jok : ∀ t : Tr, t.Good ∧ t.leaves ≤ 5 → -1048576 ≤ t.val ∧ t.val ≤ 1048576 := fun t h => ⟨(val_small h.1 h.2).1, (val_small h.1 h.2).2.1⟩
    dsimp only [needsT] at hd hu
    simp only [Tr.size] at hd hu
    have r1 : dp + 1 + l.size < recursionLimit := by omega
    have r2 : dp + 1 + r.size < recursionLimit := by omega
    have r3 : dp + 1 + 1 < recursionLimit := by omega
    have u1 : un + 3 + 8 * l.size < cLine := by omega
    have u2 : un + 3 + 8 * r.size < cLine := by omega
    have u3 : un + 3 + 8 * 1 < cLine := by omega
    have z1 : needsT.size l < needsT.size (.node w1 l r) := by show l.size < l.size + r.size + 1; omega
    have z2 : needsT.size r < needsT.size (.node w1 l r) := by show r.size < l.size + r.size + 1; omega
    refine wpAny_call ?_
    k_dflt ktr_enter
    refine wp_never ?_
    k_with "call ref" => ((with_reducible show wpAny _ _ (call (Value.ref 204) _) _ _ _); k_dflt (refine tellsN_use (c := needsT) (by k_asm) (by k_asm) (by k_asm) (by k_asm) (by k_asm) (by first | exact rfl | assumption) (by first | (exact .mk hl) | fail "rel") (IH l z1) (by first | (exact ok1) | fail "ok") (by exact r1) (by exact u1) ?_); intro r9 tl9 h9 tk9 F9 N9 hl9 ht9 ho9; (try dsimp only); obtain @⟨a2, _, t2, t3, n2, hm2⟩ := ho9; (try simp only [List.append_assoc] at N9 hm2))
    k_with "call ref" => ((with_reducible show wpAny _ _ (call (Value.ref 204) _) _ _ _); k_dflt (refine tellsN_use (c := needsT) (by k_asm) (by k_asm) (by k_asm) (by k_asm) (by k_asm) (by first | exact rfl | assumption) (by first | (exact .mk (TreeIn.mono hr (fun _ hp => List.mem_append_left _ hp))) | fail "rel") (IH r z2) (by first | (exact ok2) | fail "ok") (by exact r2) (by exact u2) ?_); intro r9 tl9 h9 tk9 F9 N9 hl9 ht9 ho9; (try dsimp only); obtain @⟨a2, _, t2, t3, n2, hm2⟩ := ho9; (try simp only [List.append_assoc] at N9 hm2))
    k_with "call ref" => ((with_reducible show wpAny _ _ (call (Value.ref 197) _) _ _ _); k_dflt (refine tellsN_use (c := joinedT) (by k_asm) (by k_asm) (by k_asm) (by k_asm) (by k_asm) (by first | exact rfl | assumption) (by first | (exact .mk) | fail "rel") (JC _) (by first | (exact ⟨(jok _ ok1).1, (jok _ ok1).2, (jok _ ok2).1, (jok _ ok2).2⟩) | fail "ok") (by exact r3) (by exact u3) ?_); intro r9 tl9 h9 tk9 F9 N9 hl9 ht9 ho9; (try dsimp only); obtain ⟨t9, e9⟩ := ho9; subst e9; subst ht9; (try simp only [List.append_nil] at N9))
    k_steps
    all_goals ktn_end hret
end

section
open PySem PySem.W PyProof.Rows PySem.Spec PySem.Calls
set_option Elab.async false
set_option maxRecDepth 100000
set_option maxHeartbeats 8000000
set_option linter.all false
theorem fresh_E5 {prog : Program} {w : World} {A : Around} {E : Value → Shared → Prop} {s : Shared} {Q : Value → Shared → Prop} (h : wpAny (model prog w) A (call (.int 0 0) []) Q E s) : wpAny (model prog w) A (call (.int 0 0) []) Q E s := by
  k_with_none
  w_top off
  first | (walk1; fail) | exact h
/-- the number that a word's codes say -/
noncomputable def wnum (l : List Nat) : Int := l.foldl (fun (a : Int) (c : Nat) => 16 * a + (c : Int) - 65) 0
theorem wnum_signs (x : Str) : (List.foldl (fun (σ : Int × Unit) (k : Str) => (16 * σ.fst + ((k.cps.getD 0 0 : Nat) : Int) - 65, ())) (0, ()) (signs x)).fst = wnum x.cps.toList := by
  unfold wnum signs
  have gen : ∀ (l : List Nat) (a : Int), (List.foldl (fun (σ : Int × Unit) (k : Str) => (16 * σ.fst + ((k.cps.getD 0 0 : Nat) : Int) - 65, ())) (a, ()) (l.map fun c => (⟨#[c]⟩ : Str))).fst = l.foldl (fun (a : Int) (c : Nat) => 16 * a + (c : Int) - 65) a := by
    intro l
    induction l with
    | nil => intro a; rfl
    | cons c r ih => intro a; exact ih _
  exact gen _ 0
structure Piece where
  sg : Str
  wd : Str
noncomputable def Piece.worth (p : Piece) : Int := if p.sg = Str.ofString "-" then - wnum p.wd.cps.toList else wnum p.wd.cps.toList
inductive PieceArg (news : List (Addr × Obj)) : List Value → Piece → Prop where
  | mk {a : Addr} {sg wd : Str} {t1 t2 : Tok} {n : Nat} : (a, ({ cls := .type "tuple", data := .seq #[.str sg t1, .str wd t2] n } : Obj)) ∈ news → PieceArg news [.ref a] ⟨sg, wd⟩
noncomputable abbrev worthT : ToldN Piece where
  Rel := PieceArg
  Ok := fun p => p.wd.length ≤ 8 ∧ ∀ c ∈ p.wd.cps.toList, 65 ≤ c ∧ c ≤ 80
  size := fun _ => 1
  Tl := fun tl => tl = []
  Out := fun _ r d => ∃ t, r = .int d.worth t

theorem worth_ct (w : World) (mean : ExcName → Option Value) (mg mb : Str → Option Value) : ∀ d, TellsN PySem.Challenge.rw_xn0010_01.row.prog w (hd.heap_1_39 w.params) hd.view_1_40 LS mean mg mb 178 worthT d := by
  w_on
  k_fill
  intro d
  unfold TellsN
  intro dp un gd cn cs a ccd cl outer A₀ base h₀ L m news s vs Q E B F X N T hk hR hok hd hu hret
  obtain @⟨a1, sg, wd, t1, t2, n1, hm⟩ := hR
  refine wpAny_call ?_
  k_dflt ktr_enter
  refine wp_never ?_
  k_steps
  · exact hret _ [] _ _ (by k_asm) (news_nil (by k_asm)) ktn_ord0 rfl (out_int (by unfold Piece.worth; rw [if_pos (by simpa using ‹(sg == _) = true›)]; exact congrArg Neg.neg (wnum_signs wd)))
  · exact hret _ [] _ _ (by k_asm) (news_nil (by k_asm)) ktn_ord0 rfl (out_int (by unfold Piece.worth; rw [if_neg (by simpa using ‹(sg == _) = false›)]; exact wnum_signs wd))
end

section
open PySem PySem.W PyProof.Rows PySem.Spec PySem.Calls
set_option Elab.async false
set_option maxRecDepth 100000
set_option maxHeartbeats 8000000
set_option linter.all false
theorem fresh_E6 {prog : Program} {w : World} {A : Around} {E : Value → Shared → Prop} {s : Shared} {Q : Value → Shared → Prop} (h : wpAny (model prog w) A (call (.int 0 0) []) Q E s) : wpAny (model prog w) A (call (.int 0 0) []) Q E s := by
  k_with_none
  w_top off
  first | (walk1; fail) | exact h
theorem line_E6_1 : True := by
  k_with "exec While Name" => (k_extra "exec While Name cons nil")
  trivial
noncomputable def apL (n : Nat) : List UInt8 := if h : n = 0 then [] else apL (n / 16) ++ [(65 + n % 16).toUInt8]
termination_by n
decreasing_by omega
theorem apL_zero : apL 0 = [] := by rw [apL]; simp
theorem apL_pos {n : Nat} (h : n ≠ 0) : apL n = apL (n / 16) ++ [(65 + n % 16).toUInt8] := by rw [apL]; simp [h]
theorem apL_len : ∀ (k n : Nat), n < 16 ^ k → (apL n).length ≤ k
  | 0, n, h => by have : n = 0 := by simpa using h
                  subst this; rw [apL_zero]; simp
  | k + 1, n, h => by
    by_cases h0 : n = 0
    · subst h0; rw [apL_zero]; simp
    · rw [apL_pos h0, List.length_append, List.length_singleton]
      have := apL_len k (n / 16) (by rw [Nat.pow_succ] at h; omega)
      omega
noncomputable def apBytes (i : Int) : Array UInt8 := (apL i.natAbs).toArray
inductive IntArg (news : List (Addr × Obj)) : List Value → Int → Prop where
  | mk {i : Int} {t1 : Tok} : IntArg news [.int i t1] i
noncomputable abbrev apT : ToldN Int where
  Rel := IntArg
  Ok := fun i => i.natAbs < 16 ^ 6
  size := fun _ => 1
  Tl := fun tl => tl = []
  Out := fun _ r d => ∃ t, r = .bytes (apBytes d) t
structure ApSt where
  num : Int
  tn : Tok
  val : Array UInt8
  tv : Tok
theorem ap_pick : ∀ md : Fin 16, KBy.picked #[65, 66, 67, 68, 69, 70, 71, 72, 73, 74, 75, 76, 77, 78, 79, 80] (some (md.1 : Int)) (some ((md.1 : Int) + 1)) = #[(65 + md.1).toUInt8] := by decide +kernel
theorem ap_pick' {md : Int} (h0 : 0 ≤ md) (h1 : md < 16) : KBy.picked #[65, 66, 67, 68, 69, 70, 71, 72, 73, 74, 75, 76, 77, 78, 79, 80] (some md) (some (md + 1)) = #[(65 + md.toNat).toUInt8] := by
  have := ap_pick ⟨md.toNat, by omega⟩
  have e : ((md.toNat : Nat) : Int) = md := by omega
  rw [show ((⟨md.toNat, by omega⟩ : Fin 16).1 : Int) = md from e] at this
  exact this
section
variable {prog : Program} {w : World} {A : Around} {E : Value → Shared → Prop} {s : Shared} {value slice : PySem.Expr} {t : Tok} {h₀ : Heap} {L : Addr} {m : PySem.Str → Option Value} {news : List (Addr × Obj)} {Q : Value → Shared → Prop}
theorem ap_slice {md : Int} {t1 t2 : Tok} (hF : Fr h₀ L s.heap m) (hN : News h₀ L s.heap news) (h0 : 0 ≤ md) (h1 : md < 16)
    (h : ∀ h' t' k, Fr h₀ L h' m → News h₀ L h' news → Q (.bytes #[(65 + md.toNat).toUInt8] t') { s with heap := h', toks := k })
    (hs : subscripted slice false (.bytes #[65, 66, 67, 68, 69, 70, 71, 72, 73, 74, 75, 76, 77, 78, 79, 80] t) (.ref s.heap.objs.size) = operate [.ref s.heap.objs.size, .bytes #[65, 66, 67, 68, 69, 70, 71, 72, 73, 74, 75, 76, 77, 78, 79, 80] t] (getItem (.bytes #[65, 66, 67, 68, 69, 70, 71, 72, 73, 74, 75, 76, 77, 78, 79, 80] t) (.ref s.heap.objs.size)) := by with_unfolding_all rfl)
    (ht : ∀ r, letTemporaryGo value (.bytes #[65, 66, 67, 68, 69, 70, 71, 72, 73, 74, 75, 76, 77, 78, 79, 80] t) r = pure () := by intro _; with_unfolding_all rfl) :
    wpAny (model prog w) A (subscriptTail value slice (.bytes #[65, 66, 67, 68, 69, 70, 71, 72, 73, 74, 75, 76, 77, 78, 79, 80] t) (.ref s.heap.objs.size)) Q E { s with heap := s.heap.push { cls := .type "slice", data := .fields #[.int md t1, .int (md + 1) t2, .none] } } :=
  KBc.slice_K hF hN rfl (by constructor) (by constructor) (by decide) (fun h' t' k F' N' _ => by rw [ap_pick' h0 h1]; exact h h' t' k F' N') hs ht
end

theorem ab_abs (d : Int) : (if d < 0 then -d else d) = (d.natAbs : Int) := by split <;> omega
theorem ap_ct (w : World) (mean : ExcName → Option Value) (mg mb : Str → Option Value) : ∀ d, TellsN PySem.Challenge.rw_xn0010_01.row.prog w (hd.heap_1_39 w.params) hd.view_1_40 LS mean mg mb 166 apT d := by
  w_on
  k_fill
  intro d
  unfold TellsN
  intro dp un gd cn cs a ccd cl outer A₀ base h₀ L m news s vs Q E B F X N T hk hR hok hd hu hret
  obtain @⟨i, t1⟩ := hR
  refine wpAny_call ?_
  k_dflt ktr_enter
  refine wp_never ?_
  k_with "exec While Name cons nil" => (k_dflt (refine ksw_while (σ := ApSt) (fun _ => news) (fun c => [(Str.ofString "num", .int c.num c.tn), (Str.ofString "val", .bytes c.val c.tv)]) (fun _ => True) [Str.ofString "mod"] (fun c => 0 ≤ c.num ∧ c.num.toNat < 16 ^ 6 ∧ apL c.num.toNat ++ c.val.toList = apL d.natAbs) (fun c => c.num.toNat) ⟨_, _, _, _⟩ (by k_asm) (by k_asm) trivial (two_in (by exact rfl) (by exact rfl)) ?_ (fun c u h5 tk5 _ hp5 F5 N5 => ?_)))
  k_with "subscriptTail Name Slice bytes ref" => (k_dflt (refine ap_slice (s := ⟨_, _, _, _, _⟩) (by k_asm) (by k_asm) (fmod_lo _ (by decide)) (fmod_hi _ (by decide)) ?_); intro h6 t6 k6 F6 N6)
  k_with "binaryOp Add bytes bytes" => (refine KBy.add_bytes (by have h9 := congrArg List.length hp5.2.2; have h8 := apL_len 6 _ hok; simp only [List.length_append, Array.length_toList] at h9; simp only [List.size_toArray, List.length_singleton]; omega) ?_; intro t7 k7)
  k_steps
  · show (0 : Int) ≤ (if d < 0 then -d else d)
    rw [ab_abs]; exact Int.natCast_nonneg _
  · show (if d < 0 then -d else d).toNat < 16 ^ 6
    rw [ab_abs, Int.toNat_natCast]; exact hok
  · show apL (if d < 0 then -d else d).toNat ++ [] = apL d.natAbs
    rw [List.append_nil, ab_abs, Int.toNat_natCast]
  · refine ksw_end (⟨_, _, _, _⟩ : ApSt) (by k_asm) (by k_asm) (fun p hp => List.mem_cons_of_mem _ hp) trivial (two_in (by exact rfl) (by exact rfl)) ?hr ?hp ?hm
    case hr =>
      intro z h1 h2
      have a1 : z ≠ Str.ofString "num" := h1 _ (.head _)
      have a2 : z ≠ Str.ofString "val" := h1 _ (.tail _ (.head _))
      have a3 : z ≠ Str.ofString "mod" := by rintro rfl; exact absurd h2 (by decide +kernel)
      simp [kstB, a1, a2, a3, h2]
    case hp =>
      obtain ⟨p1, p2, p3⟩ := hp5
      have e1 : c.num.fdiv 16 = c.num / 16 := Int.fdiv_eq_ediv_of_nonneg _ (by decide)
      have e2 : (c.num.fdiv 16).toNat = c.num.toNat / 16 := by rw [e1]; omega
      have e3 : (c.num.fmod 16).toNat = c.num.toNat % 16 := by rw [Int.fmod_eq_emod_of_nonneg _ (by decide)]; omega
      refine ⟨?_, ?_, ?_⟩
      · show 0 ≤ c.num.fdiv 16
        rw [e1]; omega
      · show (c.num.fdiv 16).toNat < 16 ^ 6
        rw [e2]; omega
      · show apL (c.num.fdiv 16).toNat ++ (#[(65 + (c.num.fmod 16).toNat).toUInt8] ++ c.val).toList = apL d.natAbs
        rw [← p3, apL_pos (n := c.num.toNat) (by omega), e2, e3]
        simp
    case hm =>
      have e1 : c.num.fdiv 16 = c.num / 16 := Int.fdiv_eq_ediv_of_nonneg _ (by decide)
      show (c.num.fdiv 16).toNat < c.num.toNat
      rw [e1]; have := hp5.1; omega
  · have e : c.val = apBytes d := by
      have h9 := hp5.2.2
      rw [show c.num.toNat = 0 by omega, apL_zero, List.nil_append] at h9
      unfold apBytes
      rw [← h9]
    exact hret _ [] _ _ (by k_asm) (news_nil (by k_asm)) ktn_ord0 rfl ⟨_, by rw [e]⟩
end

section
open PySem PySem.W PyProof.Rows PySem.Spec PySem.Calls
set_option Elab.async false
set_option maxRecDepth 100000
set_option maxHeartbeats 8000000
set_option linter.all false
theorem fresh_E7 {prog : Program} {w : World} {A : Around} {E : Value → Shared → Prop} {s : Shared} {Q : Value → Shared → Prop} (h : wpAny (model prog w) A (call (.int 0 0) []) Q E s) : wpAny (model prog w) A (call (.int 0 0) []) Q E s := by
  k_with_none
  w_top off
  first | (walk1; fail) | exact h
inductive SegArg (news : List (Addr × Obj)) : List Value → Seg → Prop where
  | mk {sl dl : Addr} {vs ws : List Value} {n1 n2 : Nat} {t1 t2 : Tok} {g : Seg} {b e : Int} : (sl, listOf vs.toArray n1) ∈ news → (dl, listOf ws.toArray n2) ∈ news → IntsAre vs (g.all.map (·.1)) → IntsAre ws (g.all.map (·.2)) →
     b = (g.pre.length : Int) → e = (g.pre.length : Int) + (g.len : Int) → SegArg news [.ref sl, .ref dl, .int b t1, .int e t2] g
inductive TreeOut (news : List (Addr × Obj)) : Value → Seg → Prop where
  | mk {v : Value} {g : Seg} : TreeIn news v g.t → TreeOut news v g
noncomputable abbrev treeT : ToldN Seg where
  Rel := SegArg
  Ok := fun g => g.t.Good ∧ g.all.length ≤ 1000
  size := fun g => g.t.size + 1
  Tl := ktnAny
  Out := TreeOut
theorem TreeOut.leafOf {news : List (Addr × Obj)} {k : Nat} {d : Int} {pre post : List (Int × Int)} {x : Int} {t : Tok} (h : x = 256 + (k : Int)) : TreeOut news (.int x t) ⟨.leaf k, d, pre, post⟩ := by subst h; exact .mk .leaf
theorem TreeOut.nodeOf {news : List (Addr × Obj)} {w : Nat} {l r : Tr} {d : Int} {pre post : List (Int × Int)} {a : Addr} {x : Int} {t : Tok} {vl vr : Value} {n : Nat} (h : (a, ({ cls := .type "tuple", data := .seq #[.int x t, vl, vr] n } : Obj)) ∈ news) (hx : x = 14 + (w : Int)) (hl : TreeIn news vl l) (hr : TreeIn news vr r) :
    TreeOut news (.ref a) ⟨.node w l r, d, pre, post⟩ := by subst hx; exact .mk (.node h hl hr)

theorem leaf_at (k : Nat) (d : Int) (pre post : List (Int × Int)) : ((Seg.all ⟨.leaf k, d, pre, post⟩).map (fun x => x.1)).getD (pre.length : Int).toNat 0 = 256 + (k : Int) := by
  rw [Int.toNat_natCast, List.getD_eq_getElem?_getD, List.getElem?_map]
  show (Option.map _ (pre ++ ((256 + (k : Int), d) :: post))[pre.length]?).getD 0 = _
  rw [List.getElem?_append_right (Nat.le_refl _), Nat.sub_self]
  rfl
theorem op_at (w : Nat) (l r : Tr) (d : Int) (pre post : List (Int × Int)) : ((Seg.all ⟨.node w l r, d, pre, post⟩).map (fun x => x.1)).getD ([(pre.length : Int) + 1 + ((l.toks (d + 1)).length : Int)].getD (Int.toNat 0) 0).toNat 0 = 14 + (w : Int) := by
  have e : ([(pre.length : Int) + 1 + ((l.toks (d + 1)).length : Int)].getD (Int.toNat 0) 0).toNat = pre.length + ((l.toks (d + 1)).length + 1) := by
    show ((pre.length : Int) + 1 + ((l.toks (d + 1)).length : Int)).toNat = _
    omega
  rw [e, List.getD_eq_getElem?_getD, List.getElem?_map]
  show (Option.map _ (pre ++ (((7, d + 1) :: (l.toks (d + 1) ++ (14 + (w : Int), d + 1) :: (r.toks (d + 1) ++ [(8, d)]))) ++ post))[pre.length + ((l.toks (d + 1)).length + 1)]?).getD 0 = _
  rw [List.getElem?_append_right (Nat.le_add_right _ _), Nat.add_sub_cancel_left, List.cons_append, List.getElem?_cons_succ, List.append_assoc, List.getElem?_append_right (Nat.le_refl _), Nat.sub_self]
  rfl
theorem tree_ct (w : World) (mean : ExcName → Option Value) (mg mb : Str → Option Value) : ∀ d, TellsN PySem.Challenge.rw_xn0010_01.row.prog w (hd.heap_1_39 w.params) hd.view_1_40 LS mean mg mb 190 treeT d := by
  w_on
  k_fill
  refine tellsN_of fun d IH => ?_
  unfold TellsN
  intro dp un gd cn cs a ccd cl outer A₀ base h₀ L m news s vs Q E B F X N T hk hR hok hd hu hret
  obtain @⟨sl, dl, vs1, ws1, n1, n2, t1, t2, g, b, e, hs, hdl, hvs, hws, hb, he⟩ := hR
  obtain ⟨tt0, dd, pre, post⟩ := d
  have hlen := hok.2
  have hall : (Seg.all ⟨tt0, dd, pre, post⟩).length = pre.length + (Seg.len ⟨tt0, dd, pre, post⟩ + post.length) := by simp [Seg.all, Seg.len]
  have hlv : vs1.length = (Seg.all ⟨tt0, dd, pre, post⟩).length := by have := hvs.length; simpa using this
  have hlw : ws1.length = (Seg.all ⟨tt0, dd, pre, post⟩).length := by have := hws.length; simpa using this
  have hl1 : (List.map (fun x : Int × Int => x.fst) (Seg.all ⟨tt0, dd, pre, post⟩)).length = (Seg.all ⟨tt0, dd, pre, post⟩).length := List.length_map _
  have hl2 : (List.map (fun x : Int × Int => x.snd) (Seg.all ⟨tt0, dd, pre, post⟩)).length = (Seg.all ⟨tt0, dd, pre, post⟩).length := List.length_map _
  dsimp only [treeT] at hd hu hb he
  have hb' : b = (pre.length : Int) := hb
  have he' : e = (pre.length : Int) + (Seg.len ⟨tt0, dd, pre, post⟩ : Int) := he
  clear hb he
  subst hb'
  have hE1 : (pre.length : Int) + (Seg.len ⟨tt0, dd, pre, post⟩ : Int) ≤ ((List.map (fun x : Int × Int => x.fst) (Seg.all ⟨tt0, dd, pre, post⟩)).length : Int) := by
    rw [hl1, hall]; exact Int.ofNat_le.mpr (Nat.add_le_add_left (Nat.le_add_right _ _) _)
  have hE2 : (pre.length : Int) + (Seg.len ⟨tt0, dd, pre, post⟩ : Int) ≤ ((List.map (fun x : Int × Int => x.snd) (Seg.all ⟨tt0, dd, pre, post⟩)).length : Int) := by
    rw [hl2, hall]; exact Int.ofNat_le.mpr (Nat.add_le_add_left (Nat.le_add_right _ _) _)
  have hE3 : (pre.length : Int) + (Seg.len ⟨tt0, dd, pre, post⟩ : Int) ≤ 1000 := by rw [hl1] at hE1; exact Int.le_trans hE1 (Int.ofNat_le.mpr hlen)
  have hP0 : (0 : Int) ≤ (pre.length : Int) := Int.natCast_nonneg _
  have h63 : ∀ {k : Int}, k < (pre.length : Int) + (Seg.len ⟨tt0, dd, pre, post⟩ : Int) → k < 2 ^ 63 := fun h => Int.lt_of_lt_of_le h (Int.le_trans hE3 (by decide))
  have hsz := tt0.size_pos
  clear hall hlv hlw hl1 hl2
  rename (Seg.all _).length ≤ 1000 => hlen
  k_with "subscriptTail Name Name ref int" => (refine itI (by k_asm) (by k_mem) (by assumption) (by first | exact hP0 | exact Int.le_trans hP0 hk1 | omega) (by first | exact Int.lt_of_lt_of_le hpe hE1 | exact Int.lt_of_lt_of_le hpe hE2 | exact Int.lt_of_lt_of_le hk2' hE1 | exact Int.lt_of_lt_of_le hk2' hE2 | omega) (by first | exact h63 hpe | exact h63 hk2' | omega) ?_; intro tt)
  obtain k0 | ⟨w0, l0, r0⟩ := tt0
  · have hL1 : Seg.len ⟨.leaf k0, dd, pre, post⟩ = 1 := rfl
    have hpe : (pre.length : Int) < (pre.length : Int) + (Seg.len ⟨.leaf k0, dd, pre, post⟩ : Int) := by rw [hL1]; exact Int.lt_succ _
    refine wpAny_call ?_
    k_dflt ktr_enter
    refine wp_never ?_
    k_with "call type:range" => (exfalso; omega)
    k_steps
    exact hret _ [] _ _ (by k_asm) (news_nil (by k_asm)) ktn_ord0 trivial (TreeOut.leafOf (leaf_at k0 dd pre post))
  · have hL1 : Seg.len ⟨.node w0 l0 r0, dd, pre, post⟩ = (l0.toks (dd + 1)).length + (r0.toks (dd + 1)).length + 3 := by simp [Seg.len, Tr.toks]; omega
    have hpe : (pre.length : Int) < (pre.length : Int) + (Seg.len ⟨.node w0 l0 r0, dd, pre, post⟩ : Int) := Int.lt_add_of_pos_right _ (by rw [hL1]; exact Int.ofNat_lt.mpr (Nat.succ_pos _))
    have ok1 := tg_l hok.1
    have ok2 := tg_r hok.1
    have hs1 := l0.size_pos
    have hs2 := r0.size_pos
    simp only [Tr.size] at hd hu
    have hn : (e - (pre.length : Int)).toNat = Seg.len ⟨.node w0 l0 r0, dd, pre, post⟩ := by omega
    have hsg := sgn_only (l := l0) (r := r0) (d := dd) (pre := pre) (post := post) hok.1.1 hn
    have r1 : dp + 1 + (l0.size + 1) < recursionLimit := by omega
    have r2 : dp + 1 + (r0.size + 1) < recursionLimit := by omega
    have r3 : dp + 1 < recursionLimit := by omega
    have u1 : un + 3 + 8 * (l0.size + 1) < cLine := by omega
    have u2 : un + 3 + 8 * (r0.size + 1) < cLine := by omega
    have z1 : treeT.size ⟨l0, dd + 1, pre ++ [(7, dd + 1)], (14 + (w0 : Int), dd + 1) :: (r0.toks (dd + 1) ++ ((8, dd) :: post))⟩ < treeT.size ⟨.node w0 l0 r0, dd, pre, post⟩ := by show l0.size + 1 < l0.size + r0.size + 1 + 1; omega
    have z2 : treeT.size ⟨r0, dd + 1, pre ++ ((7, dd + 1) :: (l0.toks (dd + 1) ++ [(14 + (w0 : Int), dd + 1)])), (8, dd) :: post⟩ < treeT.size ⟨.node w0 l0 r0, dd, pre, post⟩ := by show r0.size + 1 < l0.size + r0.size + 1 + 1; omega
    have a1 : Seg.all ⟨l0, dd + 1, pre ++ [(7, dd + 1)], (14 + (w0 : Int), dd + 1) :: (r0.toks (dd + 1) ++ ((8, dd) :: post))⟩ = Seg.all ⟨.node w0 l0 r0, dd, pre, post⟩ := by simp [Seg.all, Tr.toks]
    have a2 : Seg.all ⟨r0, dd + 1, pre ++ ((7, dd + 1) :: (l0.toks (dd + 1) ++ [(14 + (w0 : Int), dd + 1)])), (8, dd) :: post⟩ = Seg.all ⟨.node w0 l0 r0, dd, pre, post⟩ := by simp [Seg.all, Tr.toks]
    have c0 : (0 : Int) ≤ (pre.length : Int) + 1 + ((l0.toks (dd + 1)).length : Int) := by omega
    have c3 : (pre.length : Int) + 1 + ((l0.toks (dd + 1)).length : Int) < (pre.length : Int) + (Seg.len ⟨.node w0 l0 r0, dd, pre, post⟩ : Int) := by clear hE1 hE2 hE3; omega
    have c1 := Int.lt_of_lt_of_le c3 hE1
    have c2 := h63 c3
    k_with "subscriptTail Name Subscript ref int" => (k_dflt (refine itI (by k_asm) (by k_mem) (by assumption) (by exact c0) (by exact c1) (by exact c2) ?_); intro tt)
    refine wpAny_call ?_
    k_dflt ktr_enter
    refine wp_never ?_
    k_with "call builtin:list.append" => (k_dflt (refine appL (by k_asm) (by k_asm) (by k_upd) (by omega) ?_); intro h6 F6 N6)
    k_with "call ref" => ((with_reducible show wpAny _ _ (call (Value.ref 48) _) _ _ _); refine wpAny_call ?_; k_dflt (refine' code_def ?k1 ?k2 ?k3 ?k4 ?k5 ?kA ?kF ?kK ?k6 ?k7 ?k8 ?k9 ?kB ?_ ?c2 ?c3 ?c4 ?c5; (case kA => exact rfl); (case kF => exact rfl); (case kK => first | exact rfl | assumption); (case k1 => k_asm); (case k2 => k_asm); (case k3 => k_asm); (case k4 => k_asm); (case k5 => k_asm); (case k6 => k_is); (case k7 => k_is); (case k8 => exact r3); (case k9 => exact BindsTo.of_eq rfl); (case c5 => decide); (case kB => exact locs rfl); (case c2 => exact rfl); (case c3 => exact rfl); (case c4 => exact rfl); k_whole; intro g' L' h' FG' F' N' B' X' T'; (try dsimp only); (try k_fold)))
    k_with "call ref" => ((with_reducible show wpAny _ _ (call (Value.ref 190) _) _ _ _); k_dflt (refine tellsN_use (c := treeT) (by k_asm) (by k_asm) (by k_asm) (by k_asm) (by k_asm) (by first | exact rfl | assumption) (by first | (exact .mk (by k_mem) (by k_mem) (by rw [a1]; assumption) (by rw [a1]; assumption) (by simp) (by first | (simp [Seg.len]; done) | (simp [Seg.len]; omega) | fail)) | fail "rel") (IH _ z1) (by first | (exact ⟨ok1, by rw [a1]; exact hlen⟩) | fail "ok") (by exact r1) (by exact u1) ?_); intro r9 tl9 h9 tk9 F9 N9 hl9 ht9 ho9; (try dsimp only); obtain ⟨ho9⟩ := ho9)
    k_with "call ref" => ((with_reducible show wpAny _ _ (call (Value.ref 190) _) _ _ _); k_dflt (refine tellsN_use (c := treeT) (by k_asm) (by k_asm) (by k_asm) (by k_asm) (by k_asm) (by first | exact rfl | assumption) (by first | (exact .mk (by k_mem) (by k_mem) (by rw [a2]; assumption) (by rw [a2]; assumption) (by first | (simp; done) | (simp; omega) | fail) (by first | (simp [Seg.len]; done) | (simp [Seg.len]; omega) | fail)) | fail "rel") (IH _ z2) (by first | (exact ⟨ok2, by rw [a2]; exact hlen⟩) | fail "ok") (by exact r2) (by exact u2) ?_); intro r9 tl9 h9 tk9 F9 N9 hl9 ht9 ho9; (try dsimp only); obtain ⟨ho9⟩ := ho9)
    k_with "pyIter ref" => (k_dflt (refine range_fill (Seg.sgn ⟨.node w0 l0 r0, dd, pre, post⟩) rfl (by assumption) (small_one (by omega) (by omega) (by omega) (by omega)) (by k_asm) (by k_asm) (by exact rfl) (fun pre5 k t vs5 n5 h5 tk5 own5 hk0 hk2 hk1 hk2' hoff5 hi5 hl5 F5 N5 => ?_) (fun u5 vs5 n5 h5 tk5 hi5 F5 N5 => ?_)); (all_goals (try (rw [hsg] at hi5; obtain ⟨t7, e7⟩ := ints_one hi5; subst e7))))
    k_steps
    all_goals first
      | (exfalso; omega)
      | exact RfPost.next (by k_asm) (by k_asm) (by first | exact fun _ h => h | exact fun _ h => List.mem_cons_of_mem _ h) (filter_yes hi5 (sgn_yes (by assumption) (by assumption) (by assumption))) (fun z hz => if_neg hz)
      | exact RfPost.next (by k_asm) (by k_asm) (by first | exact fun _ h => h | exact fun _ h => List.mem_cons_of_mem _ h) (filter_no hi5 (sgn_no3 (by assumption))) (fun z hz => if_neg hz)
      | exact RfPost.next (by k_asm) (by k_asm) (by first | exact fun _ h => h | exact fun _ h => List.mem_cons_of_mem _ h) (filter_no hi5 (sgn_no2 (by assumption))) (fun z hz => if_neg hz)
      | exact RfPost.next (by k_asm) (by k_asm) (by first | exact fun _ h => h | exact fun _ h => List.mem_cons_of_mem _ h) (filter_no hi5 (sgn_no1 (by assumption))) (fun z hz => if_neg hz)
      | skip
    exact hret _ _ _ _ (by k_asm) (shape2 (by k_asm)) (order2 (by assumption) (by assumption) (by assumption) (by assumption)) trivial (TreeOut.nodeOf ktn_new (op_at _ _ _ _ _ _) (TreeIn.mono (by assumption) sub2a) (TreeIn.mono (by assumption) sub2b))
end

section
open PySem PySem.W PyProof.Rows PySem.Spec PySem.Calls
set_option Elab.async false
set_option maxRecDepth 100000
set_option maxHeartbeats 8000000
set_option linter.all false
noncomputable def accO (dx : Addr) (vs : List Value) (n : Nat) : Obj := { cls := .ref 142, dict := some dx, data := .seq vs.toArray n }
theorem inst_acc {h₀ h : Heap} {L x dx : Addr} {news : List (Addr × Obj)} {vs : List Value} {n : Nat} {od : Obj} (N : News h₀ L h news) (h1 : (x, accO dx vs n) ∈ news) (h2 : (dx, od) ∈ news) : InstAt h x (accO dx vs n) 142 (some od) :=
  ⟨(N _ h1).1, rfl, rfl, (N _ h2).1⟩
theorem acc_mroL (P : Params) : mroIn (hd.heap_1_39 P) 142 (.type "list") = some true := by kernel_rfl
theorem acc_mroM (P : Params) : mroIn (hd.heap_1_39 P) 142 (.type "module") = some false := by kernel_rfl
section
variable {prog : Program} {w : World} {A : Around} {E : Value → Shared → Prop} {s : Shared} {h₀ : Heap} {L : Addr} {m : Str → Option Value} {news news' : List (Addr × Obj)} {x dx : Addr} {vs : List Value} {n : Nat} {od : Obj}

theorem acc_isList (X : (hd.heap_1_39 w.params).In s.heap) (I : InstAt s.heap x (accO dx vs n) 142 (some od)) : Looks (model prog w) s.heap (isInstance (.ref x) (.type "list")) true :=
  I.type.andThen (looks_mroIn X (acc_mroL _))
theorem acc_notModule (X : (hd.heap_1_39 w.params).In s.heap) (I : InstAt s.heap x (accO dx vs n) 142 (some od)) : Looks (model prog w) s.heap (isInstance (.ref x) (.type "module")) false :=
  I.type.andThen (looks_mroIn X (acc_mroM _))

/-- the check of a call of a method of a built-in class, on an object of a class below it -/
theorem check_meth {M : Model} {i owner nm : String} {self : Value} {rest : List Value} {Q : Unit → Shared → Prop}
    (hk : builtinKind i = some .slot ∨ builtinKind i = some .method) (hs : splitId i = some (owner, nm)) (hi : Looks M s.heap (isInstance self (.type owner)) true) (ha : argsOk i ⟨self :: rest, []⟩) (q : Q () s) :
    wpAny M A (checkBuiltinCall i ⟨self :: rest, []⟩) Q E s := by
  rcases hk with hk | hk <;>
  · simp only [checkBuiltinCall, hk, hs]
    refine wpAny_bind (hi.here ?_)
    simp only [Bool.not_true, Bool.false_eq_true, if_false]
    cases hsig : Manifest.signature? i with
    | none => exact wpAny_pure q
    | some sig =>
      simp only [argsOk, hsig] at ha
      have h2 : Bind.checkArgs i sig ⟨self :: rest, []⟩ = pure () := ha
      show wpAny M A (Bind.checkArgs i sig ⟨self :: rest, []⟩) Q E s
      rw [h2]; exact wpAny_pure q
theorem sub_call {i owner nm : String} {bi : Builtin} {self : Value} {rest : List Value} {Q : Value → Shared → Prop} (hp : plainId i = true) (he : entryFor table i = some bi)
    (hk : builtinKind i = some .slot ∨ builtinKind i = some .method) (hs : splitId i = some (owner, nm)) (hi : Looks (model prog w) s.heap (isInstance self (.type owner)) true) (ha : argsOk i ⟨self :: rest, []⟩)
    (hc : wpAny (model prog w) A.in1 (bi ⟨self :: rest, []⟩) (fun fin s' => ∃ v, fin = .done (.ret v) ∧ Q v s') E s) :
    wpAny (model prog w) A (call (.builtin i) (self :: rest)) Q E s := by
  refine wpAny_call (codeAny_call_builtin hp he (check_meth hk hs hi ha (wpAny_mono hc (fun fin s' h' => ?_) fun _ _ h' => h')))
  obtain ⟨v, rfl, hv⟩ := h'; exact hv

theorem canon_list_ga : Manifest.canonical "list.__getattribute__" = "object.__getattribute__" := by decide +kernel
/-- a method met on an object of the pile's class -/
theorem acc_method {f : Value} {tf : String} {name : Str} {pl : Sem Bool} {Q : Value × List Value → Shared → Prop} (X : (hd.heap_1_39 w.params).In s.heap) (I : InstAt s.heap x (accO dx vs n) 142 (some od)) (hga : findIn (hd.heap_1_39 w.params) (.ref 142) "__getattribute__" = some (some (.builtin "list.__getattribute__"))) (hk : findIn (hd.heap_1_39 w.params) (.ref 142) "__getattr__" = some none)
    (hf : findIn (hd.heap_1_39 w.params) (.ref 142) name = some (some f)) (ht : typeIn (hd.heap_1_39 w.params) f = some (.type tf)) (htf : tf = "function" ∨ tf = "method_descriptor") (hs : shadowIn (some od) name = some false) (h : Q (f, [.ref x]) s) :
    wpAny (model prog w) A (getMethod (.ref x) name pl) Q E s := by
  unfold getMethod specialOf
  refine wpAny_bind (wpAny_bind (I.type.here ((looks_findIn X hga).here ?_)))
  dsimp only
  rw [canon_list_ga, if_neg (by decide)]
  refine wpAny_bind (wpAny_bind (I.type.here ((looks_findIn X hk).here ?_)))
  refine wpAny_bind (wpAny_bind (I.type.here ((looks_findIn X hf).here (wpAny_bind ((looks_typeIn X ht).here ?_)))))
  rw [if_neg (by rcases htf with rfl | rfl <;> decide +kernel)]
  refine wpAny_bind (wpAny_loadPart I.at_ ?_)
  have hd : s.heap.get? dx = some od := I.dict
  obtain ⟨b, hb1, hb2⟩ := Option.map_eq_some_iff.mp hs
  refine wpAny_bind (wpAny_bind (wpAny_loadPart hd ?_))
  rw [nsLook_of hb1]
  refine wpAny_pure ?_
  rw [hb2]
  exact wpAny_bind (wpAny_rule (wpAny_pure h))
theorem acc_gets (P : Params) : findIn (hd.heap_1_39 P) (.ref 142) "__getattribute__" = some (some (.builtin "list.__getattribute__")) := by kernel_rfl
theorem acc_getsNo (P : Params) : findIn (hd.heap_1_39 P) (.ref 142) "__getattr__" = some none := by kernel_rfl
theorem acc_append (P : Params) : findIn (hd.heap_1_39 P) (.ref 142) "append" = some (some (.builtin "list.append")) := by kernel_rfl
theorem append_type (K : Frag) : typeIn K (.builtin "list.append") = some (.type "method_descriptor") := by kernel_rfl
theorem kind_append : builtinKind "list.append" = some .method := by decide +kernel
theorem split_append : splitId "list.append" = some ("list", "append") := by decide +kernel
theorem plain_append : plainId "list.append" = true := by decide +kernel

theorem acc_app {v : Value} {Q : Value → Shared → Prop} (F : Fr h₀ L s.heap m) (X₀ : (hd.heap_1_39 w.params).In h₀) (N : News h₀ L s.heap news) (hdx : (dx, od) ∈ news) (U : Upd x (accO dx vs n) (accO dx (vs ++ [v]) (n + 1)) news news') (hsz : vs.length ≤ 10000)
    (h : ∀ h', Fr h₀ L h' m → News h₀ L h' news' → Q .none { s with heap := h' }) : wpAny (model prog w) A (call (.builtin "list.append") [.ref x, v]) Q E s := by
  obtain ⟨pre, post, rfl, rfl, a, b⟩ := U.split
  have z := N (x, accO dx vs n) (List.mem_append.mpr (.inr (.head _)))
  refine sub_call plain_append entry_list_append (.inr kind_append) split_append (acc_isList (X₀.keeps F.keep) (inst_acc N (List.mem_append.mpr (.inr (.head _))) hdx)) (args_list_append _ _) ?_
  show wpAny _ _ (updateSeq x (·.push v) >>= fun _ => ret .none) _ _ s
  refine wpAny_bind ?_
  refine wpAny_updateSeq z.1 rfl (wpAny_pure ⟨.none, rfl, ?_⟩)
  have ho' : (s.heap.update x fun o => o.mapSeq (·.push v)).get? x = some (accO dx (vs ++ [v]) (n + 1)) := by
    rw [Heap.get?_update_self _ z.1 (by rfl)]
    simp [accO, Obj.mapSeq]
  exact h _ (F.change (Heap.SameBut.update ..) z.2.1 z.2.2) (news_set N a b (Heap.SameBut.update ..) ho')
end
section
variable {prog : Program} {w : World} {A : Around} {E : Value → Shared → Prop} {h : Heap} {g : Array GenState} {d : Drawn} {t : Nat} {os : OsState}
theorem slot_wd_get : Slot "wrapper_descriptor" "__get__" "wrapper_descriptor.__get__" :=
  .of (owner := "wrapper_descriptor") (n := "__get__") (by rw [typeLookup_type, builtinLookup_eq_fast]; kernel_rfl) (by decide +kernel) (by decide +kernel) (by decide +kernel)
    (by first | exact .inl (by decide +kernel) | exact .inr (by decide +kernel)) (by rw [isSubtype_type]; kernel_rfl)
theorem entry_wd_get : entryFor table "wrapper_descriptor.__get__" = some Builtin.«wrapper_descriptor.__get__» := entryFor_of_tree (by kernel_rfl)
theorem args_wd_get (a b c : Value) : argsOk "wrapper_descriptor.__get__" ⟨[a, b, c], []⟩ := by unfold argsOk; kernel_rfl
theorem slot_md_get : Slot "method_descriptor" "__get__" "method_descriptor.__get__" :=
  .of (owner := "method_descriptor") (n := "__get__") (by rw [typeLookup_type, builtinLookup_eq_fast]; kernel_rfl) (by decide +kernel) (by decide +kernel) (by decide +kernel)
    (by first | exact .inl (by decide +kernel) | exact .inr (by decide +kernel)) (by rw [isSubtype_type]; kernel_rfl)
theorem entry_md_get : entryFor table "method_descriptor.__get__" = some Builtin.«method_descriptor.__get__» := entryFor_of_tree (by kernel_rfl)
theorem args_md_get (a b c : Value) : argsOk "method_descriptor.__get__" ⟨[a, b, c], []⟩ := by unfold argsOk; kernel_rfl

theorem wd_run {x C : Addr} {i : String} {Q : Fin → Shared → Prop} (hi : Looks (model prog w) h (isInstance (.ref x) (.type (".".intercalate (i.cutAt '.').dropLast))) true) (hq : Q (.done (.ret (.ref h.objs.size))) ⟨h.push { cls := .type "method-wrapper", data := .fields #[.builtin i, .ref x] }, g, d, t, os⟩) :
    wpAny (model prog w) A (Builtin.«wrapper_descriptor.__get__» ⟨[.builtin i, .ref x, .ref C], []⟩) Q E ⟨h, g, d, t, os⟩ := by
  unfold Builtin.«wrapper_descriptor.__get__»
  repeat lk
  exact hq
theorem md_run {x C : Addr} {i : String} {Q : Fin → Shared → Prop} (hn : Manifest.toldItsClass.contains i = false) (hi : Looks (model prog w) h (isInstance (.ref x) (.type (".".intercalate (i.cutAt '.').dropLast))) true) (hq : Q (.done (.ret (.ref h.objs.size))) ⟨h.push { cls := .type "builtin_function_or_method", data := .fields #[.builtin i, .ref x] }, g, d, t, os⟩) :
    wpAny (model prog w) A (Builtin.«method_descriptor.__get__» ⟨[.builtin i, .ref x, .ref C], []⟩) Q E ⟨h, g, d, t, os⟩ := by
  unfold Builtin.«method_descriptor.__get__»
  repeat lk
  rw [if_neg (by rw [hn]; decide)]
  repeat lk
  exact hq

theorem super_ga {so D x C : Addr} {i gid tw bt : String} {Bi : Builtin} {l₀ l : List Value} {K : Frag} {name : Str} {tk : Tok} {Q : Fin → Shared → Prop}
    (hso : h.get? so = some { cls := .type "super", dict := none, data := .fields #[.ref D, .ref x, .ref C], slots := #[] }) (hno : Looks (model prog w) h (opaqueClassAbove (.ref C)) none)
    (hC : Looks (model prog w) h (mroOf (.ref C)) l₀) (hl : (l₀.dropWhile (· != .ref D)).drop 1 = l) (X : K.In h)
    (hf : alongIn K name l = some (some (.builtin i))) (hty : typeOf (.builtin i) = pure (.type tw)) (sl : Slot tw "__get__" gid) (en : entryFor table gid = some Bi) (ar : argsOk gid ⟨[.builtin i, .ref x, .ref C], []⟩) (hxC : x ≠ C) (hn : (name == ("__class__" : Str)) = false)
    (hrun : ∀ (A : Around) (Q : Fin → Shared → Prop) (E : Value → Shared → Prop), Q (.done (.ret (.ref h.objs.size))) ⟨h.push { cls := .type bt, data := .fields #[.builtin i, .ref x] }, g, d, t, os⟩ → wpAny (model prog w) A (Bi ⟨[.builtin i, .ref x, .ref C], []⟩) Q E ⟨h, g, d, t, os⟩)
    (hq : Q (.done (.ret (.ref h.objs.size))) ⟨h.push { cls := .type bt, data := .fields #[.builtin i, .ref x] }, g, d, t, os⟩) :
    wpAny (model prog w) A (Builtin.«super.__getattribute__» ⟨[.ref so, .str name tk], []⟩) Q E ⟨h, g, d, t, os⟩ := by
  have hlk := sl.lookup
  have hne : (Value.ref x == Value.ref C) = false := by simp [hxC]
  have hTf : (⟨h, g, d, t, os⟩ : Shared).TypeIs (.builtin i) tw := hty
  have hdt : ({ cls := .type "super", dict := none, data := .fields #[.ref D, .ref x, .ref C], slots := #[] } : Obj).data = .fields #[.ref D, .ref x, .ref C] := rfl
  have f0 : (#[.ref D, .ref x, .ref C] : Array Value)[0]? = some (.ref D) := rfl
  have f1 : (#[.ref D, .ref x, .ref C] : Array Value)[1]? = some (.ref x) := rfl
  have f2 : (#[.ref D, .ref x, .ref C] : Array Value)[2]? = some (.ref C) := rfl
  unfold Builtin.«super.__getattribute__»
  repeat (first
    | (with_reducible refine wpAny_field hso hdt f0 ?_) | (with_reducible refine wpAny_field hso hdt f1 ?_) | (with_reducible refine wpAny_field hso hdt f2 ?_)
    | (with_reducible refine ks_wpAny_notOpaque hno ?_)
    | (with_reducible refine Looks.at hC ?_; rw [hl])
    | (refine ks_forIn_along X (fun _ _ => rfl) rfl ?_ hf)
    | (with_reducible refine wpAny_typeOf hTf ?_)
    | (with_reducible refine wpAny_call_entry sl hTf en ?_ ar)
    | (refine hrun _ _ _ ?_)
    | (with_reducible refine ⟨_, rfl, ?_⟩)
    | (simp only [hn, hne, Bool.or_false, Bool.false_eq_true, if_false])
    | wp_step
    | dsimp only)
  all_goals exact hq

theorem super_getm {so D x C : Addr} {i gid tw bt : String} {Bi : Builtin} {l₀ l : List Value} {K : Frag} {name : Str} {pl : Sem Bool} {Q : Value × List Value → Shared → Prop}
    (hso : h.get? so = some { cls := .type "super", dict := none, data := .fields #[.ref D, .ref x, .ref C], slots := #[] }) (hno : Looks (model prog w) h (opaqueClassAbove (.ref C)) none)
    (hC : Looks (model prog w) h (mroOf (.ref C)) l₀) (hl : (l₀.dropWhile (· != .ref D)).drop 1 = l) (X : K.In h)
    (hf : alongIn K name l = some (some (.builtin i))) (hty : typeOf (.builtin i) = pure (.type tw)) (sl : Slot tw "__get__" gid) (en : entryFor table gid = some Bi) (ar : argsOk gid ⟨[.builtin i, .ref x, .ref C], []⟩) (hxC : x ≠ C) (hn : (name == ("__class__" : Str)) = false)
    (hrun : ∀ (t : Nat) (A : Around) (Q : Fin → Shared → Prop) (E : Value → Shared → Prop), Q (.done (.ret (.ref h.objs.size))) ⟨h.push { cls := .type bt, data := .fields #[.builtin i, .ref x] }, g, d, t, os⟩ → wpAny (model prog w) A (Bi ⟨[.builtin i, .ref x, .ref C], []⟩) Q E ⟨h, g, d, t, os⟩)
    (hq : Q (.ref h.objs.size, []) ⟨h.push { cls := .type bt, data := .fields #[.builtin i, .ref x] }, g, d, t + 1, os⟩) :
    wpAny (model prog w) A (getMethod (.ref so) name pl) Q E ⟨h, g, d, t, os⟩ := by
  have hlk := F.ks_slot_super_ga.lookup
  have hcan := F.ks_canon_super_ga
  have hT : ∀ t', (⟨h, g, d, t', os⟩ : Shared).TypeIs (.ref so) "super" := fun _ => ⟨_, hso, rfl⟩
  unfold getMethod
  refine wpAny_bind (wpAny_specialOf (hT _) hlk ?_)
  show wpAny _ _ (if (Manifest.canonical "super.__getattribute__" != "object.__getattribute__") = true then _ else _) _ _ _
  rw [if_pos hcan]
  unfold getAttr getAttrBy
  refine wpAny_bind (wpAny_bind (wpAny_mkText (wpAny_holding (wpAny_bind (wpAny_typeOf (hT _) (wpAny_bind (wpAny_of_eq hlk ?_)))))))
  show wpAny _ _ (getAttrByItsOwn (.ref so) (.str name t) (.type "super") (.builtin "super.__getattribute__") true false) _ _ _
  unfold getAttrByItsOwn hookBefore callGetattribute boundAndCalled
  refine wpAny_bind (wpAny_of_eq (show (if onTheHeap (.type "super") then typeLookup (.type "super") "__getattr__" else pure none) = pure none from rfl) ?_)
  refine wpAny_bind (wpAny_attempt (wpAny_holding ?_))
  show wpAny _ _ (bindSpecial (.builtin "super.__getattribute__") (.ref so) >>= _) _ _ _
  refine wpAny_bind (wpAny_of_eq (F.ks_slot_super_ga.bind _) ?_)
  refine wpAny_mono (Q := fun v s' => v = .ref h.objs.size ∧ s' = ⟨h.push { cls := .type bt, data := .fields #[.builtin i, .ref x] }, g, d, t + 1, os⟩) (E := fun _ _ => False)
    (wpAny_call_entry F.ks_slot_super_ga (hT _) F.ks_entry_super_ga (super_ga hso hno hC hl X hf hty sl en ar hxC hn (hrun _) ⟨_, rfl, rfl, rfl⟩) (F.ks_gaArgs_super _ _)) (fun v s' hv => ?_) fun _ _ z => z.elim
  obtain ⟨rfl, rfl⟩ := hv
  exact wpAny_pure (wpAny_pure hq)
end
noncomputable abbrev boundO (bt i : String) (x : Addr) : Obj := { cls := .type bt, data := .fields #[.builtin i, .ref x] }
theorem own_len : ".".intercalate ("list.__len__".cutAt '.').dropLast = "list" := by decide +kernel
theorem own_init : ".".intercalate ("list.__init__".cutAt '.').dropLast = "list" := by decide +kernel
theorem own_pop : ".".intercalate ("list.pop".cutAt '.').dropLast = "list" := by decide +kernel
theorem ty_len : typeOf (.builtin "list.__len__") = pure (.type "wrapper_descriptor") := by show builtinType _ = _; rw [builtinType_eq_fast]; kernel_rfl
theorem ty_init : typeOf (.builtin "list.__init__") = pure (.type "wrapper_descriptor") := by show builtinType _ = _; rw [builtinType_eq_fast]; kernel_rfl
theorem ty_pop : typeOf (.builtin "list.pop") = pure (.type "method_descriptor") := by show builtinType _ = _; rw [builtinType_eq_fast]; kernel_rfl
theorem told_pop : Manifest.toldItsClass.contains "list.pop" = false := by decide +kernel
theorem no_opaque (P : Params) : nsIn (hd.heap_1_39 P) cStatics "thirdparty.any" = some none := by kernel_rfl
theorem acc_cls (P : Params) : clsIn (hd.heap_1_39 P) 142 = some { name := "_Accumulator", bases := [.type "list"], mro := [.ref 142, .type "list", .type "object"], ns := 141, qualname := "_Accumulator" } := by kernel_rfl
theorem along_len (P : Params) : alongIn (hd.heap_1_39 P) "__len__" [.type "list", .type "object"] = some (some (.builtin "list.__len__")) := by kernel_rfl
theorem along_init (P : Params) : alongIn (hd.heap_1_39 P) "__init__" [.type "list", .type "object"] = some (some (.builtin "list.__init__")) := by kernel_rfl
theorem along_pop (P : Params) : alongIn (hd.heap_1_39 P) "pop" [.type "list", .type "object"] = some (some (.builtin "list.pop")) := by kernel_rfl
section
variable {prog : Program} {w : World} {A : Around} {E : Value → Shared → Prop} {s : Shared} {h₀ : Heap} {L : Addr} {m : Str → Option Value} {news news' : List (Addr × Obj)} {x dx so : Addr} {vs : List Value} {n : Nat} {od : Obj}
theorem acc_superW {i : String} {name : Str} {pl : Sem Bool} {Q : Value × List Value → Shared → Prop} (F : Fr h₀ L s.heap m) (X₀ : (hd.heap_1_39 w.params).In h₀) (N : News h₀ L s.heap news) (hso : (so, ks_superObj 142 x 142) ∈ news) (hx : (x, accO dx vs n) ∈ news) (hdx : (dx, od) ∈ news)
    (hf : alongIn (hd.heap_1_39 w.params) name [.type "list", .type "object"] = some (some (.builtin i))) (hty : typeOf (.builtin i) = pure (.type "wrapper_descriptor")) (hown : ".".intercalate (i.cutAt '.').dropLast = "list") (hn : (name == ("__class__" : Str)) = false)
    (h : ∀ q h', Fr h₀ L h' m → News h₀ L h' ((q, boundO "method-wrapper" i x) :: news) → (∀ p ∈ news, p.1 < q) → Q (.ref q, []) { s with heap := h', toks := s.toks + 1 }) : wpAny (model prog w) A (getMethod (.ref so) name pl) Q E s := by
  have X : (hd.heap_1_39 w.params).In s.heap := X₀.keeps F.keep
  have I := inst_acc N hx hdx
  have hil : Looks (model prog w) s.heap (isInstance (.ref x) (.type (".".intercalate (i.cutAt '.').dropLast))) true := by rw [hown]; exact acc_isList X I
  obtain ⟨hh, g, d, t, os⟩ := s
  have hC : Looks (model prog w) hh (mroOf (.ref 142)) [.ref 142, .type "list", .type "object"] := fun A Q E s k q => wpAny_bind ((looks_clsIn X (acc_cls _)) A _ E s k (wpAny_pure q))
  obtain ⟨F', N', l'⟩ := ks_newsPush (s := ⟨hh, g, d, t, os⟩) (o := boundO "method-wrapper" i x) F N rfl (Heap.get?_push_at rfl rfl) (fun b o e => Heap.get?_push_of_some _ e)
  exact super_getm (N _ hso).1 (looks_opaque X (no_opaque _)) hC (by rfl) X hf hty slot_wd_get entry_wd_get (args_wd_get _ _ _) (ks_ne X I (acc_cls _)) hn (fun t A Q E hq => wd_run hil hq) (h _ _ F' N' l')
theorem acc_superM {i : String} {name : Str} {pl : Sem Bool} {Q : Value × List Value → Shared → Prop} (F : Fr h₀ L s.heap m) (X₀ : (hd.heap_1_39 w.params).In h₀) (N : News h₀ L s.heap news) (hso : (so, ks_superObj 142 x 142) ∈ news) (hx : (x, accO dx vs n) ∈ news) (hdx : (dx, od) ∈ news)
    (hf : alongIn (hd.heap_1_39 w.params) name [.type "list", .type "object"] = some (some (.builtin i))) (hty : typeOf (.builtin i) = pure (.type "method_descriptor")) (hown : ".".intercalate (i.cutAt '.').dropLast = "list") (htold : Manifest.toldItsClass.contains i = false) (hn : (name == ("__class__" : Str)) = false)
    (h : ∀ q h', Fr h₀ L h' m → News h₀ L h' ((q, boundO "builtin_function_or_method" i x) :: news) → (∀ p ∈ news, p.1 < q) → Q (.ref q, []) { s with heap := h', toks := s.toks + 1 }) : wpAny (model prog w) A (getMethod (.ref so) name pl) Q E s := by
  have X : (hd.heap_1_39 w.params).In s.heap := X₀.keeps F.keep
  have I := inst_acc N hx hdx
  have hil : Looks (model prog w) s.heap (isInstance (.ref x) (.type (".".intercalate (i.cutAt '.').dropLast))) true := by rw [hown]; exact acc_isList X I
  obtain ⟨hh, g, d, t, os⟩ := s
  have hC : Looks (model prog w) hh (mroOf (.ref 142)) [.ref 142, .type "list", .type "object"] := fun A Q E s k q => wpAny_bind ((looks_clsIn X (acc_cls _)) A _ E s k (wpAny_pure q))
  obtain ⟨F', N', l'⟩ := ks_newsPush (s := ⟨hh, g, d, t, os⟩) (o := boundO "builtin_function_or_method" i x) F N rfl (Heap.get?_push_at rfl rfl) (fun b o e => Heap.get?_push_of_some _ e)
  exact super_getm (N _ hso).1 (looks_opaque X (no_opaque _)) hC (by rfl) X hf hty slot_md_get entry_md_get (args_md_get _ _ _) (ks_ne X I (acc_cls _)) hn (fun t A Q E hq => md_run htold hil hq) (h _ _ F' N' l')
end
end

section
open PySem PySem.W PyProof.Rows PySem.Spec PySem.Calls
set_option Elab.async false
set_option maxRecDepth 100000
set_option maxHeartbeats 8000000
set_option linter.all false
theorem fresh_E9 {prog : Program} {w : World} {A : Around} {E : Value → Shared → Prop} {s : Shared} {Q : Value → Shared → Prop} (h : wpAny (model prog w) A (call (.int 0 0) []) Q E s) : wpAny (model prog w) A (call (.int 0 0) []) Q E s := by
  k_with_none
  w_top off
  first | (walk1; fail) | exact h
theorem chk_len (x : Addr) : checkBoundCall "list.__len__" ⟨[.ref x], []⟩ = pure () := by first | kernel_rfl | rfl
theorem chk_init (x : Addr) : checkBoundCall "list.__init__" ⟨[.ref x], []⟩ = pure () := by first | kernel_rfl | rfl
theorem sig_pop : ∃ sg, Manifest.signature? "list.pop" = some sg ∧ ∀ (x : Addr), Bind.checkArgs "list.pop" { sg with full := "_Accumulator.pop" } ⟨[.ref x], []⟩ = pure () := ⟨_, rfl, fun x => by kernel_rfl⟩
theorem kind_pop : builtinKind "list.pop" = some .method := by decide +kernel
theorem quiet_len : (Code.builtin "list.__len__" ⟨[.ref x], []⟩).quiet = true := Code.quiet_builtin _ (by decide +kernel)
theorem quiet_init : (Code.builtin "list.__init__" ⟨[.ref x], []⟩).quiet = true := Code.quiet_builtin _ (by decide +kernel)
theorem quiet_pop : (Code.builtin "list.pop" ⟨[.ref x], []⟩).quiet = true := Code.quiet_builtin _ (by decide +kernel)
theorem entry_l_init : entryFor table "list.__init__" = some Builtin.«list.__init__» := entryFor_of_tree (by kernel_rfl)
theorem entry_l_len : entryFor table "list.__len__" = some Builtin.«list.__len__» := entryFor_of_tree (by kernel_rfl)
theorem entry_l_pop : entryFor table "list.pop" = some Builtin.«list.pop» := entryFor_of_tree (by kernel_rfl)
theorem varargs_pop : Manifest.varargsMethods.contains "list.pop" = false := by decide +kernel
section
variable {prog : Program} {w : World} {A : Around} {E : Value → Shared → Prop} {s : Shared} {h₀ : Heap} {L : Addr} {m : Str → Option Value} {news news' : List (Addr × Obj)} {x dx so q : Addr} {vs : List Value} {n : Nat} {od : Obj}
theorem bound_W {i : String} {bi : Builtin} {Q : Value → Shared → Prop} (N : News h₀ L s.heap news) (hq : (q, boundO "method-wrapper" i x) ∈ news) (hc : checkBoundCall i ⟨[.ref x], []⟩ = pure ()) (hqt : (Code.builtin i ⟨[.ref x], []⟩).quiet = true) (en : entryFor table i = some bi)
    (h : ∀ A', wpAny (model prog w) A' (bi ⟨[.ref x], []⟩) (fun fin s' => ∃ v, fin = .done (.ret v) ∧ Q v s') E s) : wpAny (model prog w) A (call (.ref q) []) Q E s := by
  refine wpAny_call (codeAny_of_tree ?_)
  show wpAny _ A.in1 (callAny (.ref q) ⟨[], []⟩) _ _ s
  simp only [callAny]
  refine wpAny_bind (wpAny_load (N _ hq).1 ?_)
  simp only [boundO, show (Value.type "method-wrapper" == Value.type "method" || Value.type "method-wrapper" == Value.type "builtin_function_or_method" || Value.type "method-wrapper" == Value.type "method-wrapper") = true by decide, if_true]
  refine KFB.if_so (by decide) ?_
  refine wpAny_bind (wpAny_of_eq (a := ()) hc ?_)
  refine wpAny_bind (wpAny_pure (wpAny_pure ?_))
  refine ⟨hqt, codeAny_builtin en (wpAny_mono (h _) (fun fin s' h' => ?_) fun _ _ h' => h')⟩
  obtain ⟨v, rfl, hv⟩ := h'; exact hv
theorem bound_len {Q : Value → Shared → Prop} (N : News h₀ L s.heap news) (hq : (q, boundO "method-wrapper" "list.__len__" x) ∈ news) (hx : (x, accO dx vs n) ∈ news)
    (h : ∀ t k, Q (.int (vs.length : Int) t) { s with toks := k }) : wpAny (model prog w) A (call (.ref q) []) Q E s := by
  refine bound_W N hq (chk_len x) quiet_len entry_l_len fun A' => ?_
  have hxx := (N _ hx).1
  obtain ⟨hp, g, d, tk, os⟩ := s
  unfold Builtin.«list.__len__» slotArgs
  wp_walk using wpAny_loadPart' hxx
  exact ⟨_, rfl, h _ _⟩
theorem acc_change {vs' : List Value} {n' : Nat} {h' : Heap} (F : Fr h₀ L s.heap m) (N : News h₀ L s.heap news) (U : Upd x (accO dx vs n) (accO dx vs' n') news news') (hb : Heap.SameBut x s.heap h') (ho : h'.get? x = some (accO dx vs' n')) : Fr h₀ L h' m ∧ News h₀ L h' news' := by
  obtain ⟨pre, post, rfl, rfl, a, b⟩ := U.split
  have z := N (x, accO dx vs n) (List.mem_append.mpr (.inr (.head _)))
  exact ⟨F.change hb z.2.1 z.2.2, news_set N a b hb ho⟩
theorem bound_init {Q : Value → Shared → Prop} (F : Fr h₀ L s.heap m) (N : News h₀ L s.heap news) (hq : (q, boundO "method-wrapper" "list.__init__" x) ∈ news) (U : Upd x (accO dx [] n) (accO dx [] n) news news')
    (h : ∀ h' k, Fr h₀ L h' m → News h₀ L h' news' → Q .none { s with heap := h', toks := k }) : wpAny (model prog w) A (call (.ref q) []) Q E s := by
  have hx : (x, accO dx [] n) ∈ news := by obtain ⟨pre, post, rfl, rfl, a, b⟩ := U.split; exact List.mem_append.mpr (.inr (.head _))
  refine bound_W N hq (chk_init x) quiet_init entry_l_init fun A' => ?_
  have hxx := (N _ hx).1
  have hy : (s.heap.update x (Obj.mapSeq fun _ => #[])).get? x = some (accO dx [] n) := by
    rw [Heap.get?_update_self _ hxx (by rfl)]
    simp [accO, Obj.mapSeq]
  obtain ⟨F', N'⟩ := acc_change F N U (Heap.SameBut.update ..) hy
  unfold Builtin.«list.__init__»
  obtain ⟨hp, g, d, tk, os⟩ := s
  dsimp only
  wp_walk using wpAny_loadPart' hxx
  exact ⟨_, rfl, h _ _ F' N'⟩
theorem upd_refl {o : Obj} (hx : (x, o) ∈ news) (N : News h₀ L s.heap news) : News h₀ L s.heap news := N
theorem chk_pop {Q : Unit → Shared → Prop} (X : (hd.heap_1_39 w.params).In s.heap) (I : InstAt s.heap x (accO dx vs n) 142 (some od)) (h : Q () s) : wpAny (model prog w) A (checkBoundCall "list.pop" ⟨[.ref x], []⟩) Q E s := by
  obtain ⟨sg, h1, h2⟩ := sig_pop
  obtain ⟨oD, hD1, hD2⟩ : ∃ oD, s.heap.get? 142 = some oD ∧ oD.data = .cls { name := "_Accumulator", bases := [.type "list"], mro := [.ref 142, .type "list", .type "object"], ns := 141, qualname := "_Accumulator" } := by
    have hD := acc_cls w.params
    unfold clsIn at hD
    split at hD
    · rename_i c d cd' sl ho
      cases hD
      exact ⟨_, X _ _ ho, rfl⟩
    · cases hD
  obtain ⟨c1, c2, c3, c4⟩ := oD
  have hD2' : c3 = _ := hD2
  subst hD2'
  have hxx := I.at_
  have ty : ∀ a : Addr, Looks (model prog w) s.heap (typeOf (.ref x)) (.ref 142) := fun _ => I.type
  have nm := acc_notModule (prog := prog) X I
  have ity : Looks (model prog w) s.heap (isType (.ref x)) false := Looks.ld hxx |>.andThen .now
  have t142 : Looks (model prog w) s.heap (typeOf (.ref 142)) (.type "type") := looks_typeIn X (by kernel_rfl)
  unfold checkBoundCall
  simp only [h1, kind_pop, varargs_pop]
  have e9 : (toString (Str.ofString "_Accumulator").toString ++ toString "." ++ toString (Bind.lastOf "list.pop")) = "_Accumulator.pop" := by decide +kernel
  repeat (first | simp only [Bool.false_or, Bool.or_false, Bool.false_eq_true, Bool.not_true, if_false, if_true, Bool.or_true, bne_self_eq_false, beq_self_eq_true, e9, h2] | lk)
  split
  · exact wpAny_pure h
  · repeat lk
    exact h
theorem bound_pop {v : Value} {Q : Value → Shared → Prop} (F : Fr h₀ L s.heap m) (X₀ : (hd.heap_1_39 w.params).In h₀) (N : News h₀ L s.heap news) (hq : (q, boundO "builtin_function_or_method" "list.pop" x) ∈ news) (hdx : (dx, od) ∈ news) (U : Upd x (accO dx (vs ++ [v]) n) (accO dx vs (n + 1)) news news') (hsz : vs.length ≤ 10000)
    (h : ∀ h' k, Fr h₀ L h' m → News h₀ L h' news' → Q v { s with heap := h', toks := k }) : wpAny (model prog w) A (call (.ref q) []) Q E s := by
  have hx : (x, accO dx (vs ++ [v]) n) ∈ news := by obtain ⟨pre, post, rfl, rfl, a, b⟩ := U.split; exact List.mem_append.mpr (.inr (.head _))
  have X : (hd.heap_1_39 w.params).In s.heap := X₀.keeps F.keep
  have I := inst_acc N hx hdx
  refine wpAny_call (codeAny_of_tree ?_)
  show wpAny _ A.in1 (callAny (.ref q) ⟨[], []⟩) _ _ s
  simp only [callAny]
  refine wpAny_bind (wpAny_load (N _ hq).1 ?_)
  simp only [boundO, show (Value.type "builtin_function_or_method" == Value.type "method" || Value.type "builtin_function_or_method" == Value.type "builtin_function_or_method" || Value.type "builtin_function_or_method" == Value.type "method-wrapper") = true by decide, if_true]
  refine KFB.if_so (by decide) ?_
  refine wpAny_bind (chk_pop X I ?_)
  refine wpAny_bind (wpAny_pure (wpAny_pure ?_))
  refine ⟨quiet_pop, codeAny_builtin entry_l_pop ?_⟩
  have hxx := (N _ hx).1
  have hz : (vs ++ [v]).toArray.size = vs.length + 1 := by simp
  have hy : (s.heap.update x (Obj.mapSeq fun xs => xs.eraseIdxIfInBounds vs.length)).get? x = some (accO dx vs (n + 1)) := by
    rw [Heap.get?_update_self _ hxx (by rfl)]
    have e1 : (vs ++ [v]).eraseIdx vs.length = vs := by rw [List.eraseIdx_append_of_length_le (Nat.le_refl _)]; simp
    simp [accO, Obj.mapSeq, Array.eraseIdxIfInBounds, e1]
  obtain ⟨F', N'⟩ := acc_change F N U (Heap.SameBut.update ..) hy
  have hk : seqIndex? (-1) (vs ++ [v]).toArray.size = some vs.length := by rw [hz, seqIndex_neg (by omega) (by omega)]; congr 1; omega
  have hy1 : (vs ++ [v]).toArray[vs.length]? = some v := by simp
  have hs1 : (vs ++ [v]).toArray.size ≤ sizeLine := by rw [hz]; unfold sizeLine; omega
  have hz' : ((vs ++ [v]).toArray.eraseIdxIfInBounds vs.length).size ≤ sizeLine + 1 := Nat.le_trans (by have := List.length_eraseIdx_le (vs ++ [v]) vs.length; simp [Array.eraseIdxIfInBounds] at this ⊢; omega) (Nat.le_succ_of_le hs1)
  have hne : (vs ++ [v]).toArray.isEmpty = false := by simp
  unfold Builtin.«list.pop»
  obtain ⟨hp, g, d, tk, os⟩ := s
  dsimp only
  wp_walk using wpAny_loadPart' hxx
  simp only [hk, hy1, Option.bind_some, Option.map_some]
  have e9 : (seqIndex? (-1) (vs ++ [v]).toArray.size).bind (fun k => Option.map (fun x => (k, x)) (vs ++ [v]).toArray[k]?) = some (vs.length, v) := by rw [hk, Option.bind_some, hy1]; rfl
  wp_walk using (wpAny_updateSeq hxx rfl (hz := hs1) (_hz' := hz')), wpAny_loadPart' hxx
  exact h _ _ F' N'
end
end

section
open PySem PySem.W PyProof.Rows PySem.Spec PySem.Calls
set_option Elab.async false
set_option maxRecDepth 100000
set_option maxHeartbeats 8000000
set_option linter.all false
theorem fresh_E10 {prog : Program} {w : World} {A : Around} {E : Value → Shared → Prop} {s : Shared} {Q : Value → Shared → Prop} (h : wpAny (model prog w) A (call (.int 0 0) []) Q E s) : wpAny (model prog w) A (call (.int 0 0) []) Q E s := by
  k_with_none
  w_top off
  first | (walk1; fail) | exact h
theorem acc_slot4 (P : Params) : ((hd.heap_1_39 P).lookup 142).map (fun o => (o.slots.toList[4]?).join) = some (some (.builtin "list.__new__")) := by kernel_rfl
theorem acc_flags (P : Params) : (clsIn (hd.heap_1_39 P) 142).map (fun cd => (cd.abstract, cd.hasDel)) = some (false, false) := by kernel_rfl
theorem acc_mroSelf (P : Params) : mroIn (hd.heap_1_39 P) 142 (.ref 142) = some true := by kernel_rfl
theorem acc_call (P : Params) : specialIn (hd.heap_1_39 P) (.ref 142) "__call__" = some (some (.builtin "type.__call__")) := by kernel_rfl
theorem acc_type (P : Params) : instIn (hd.heap_1_39 P) (.ref 142) (.type "type") = some true := by kernel_rfl
theorem acc_inits (P : Params) : findIn (hd.heap_1_39 P) (.ref 142) "__init__" = some (some (.ref 79)) := by kernel_rfl
theorem acc_initT (P : Params) : typeIn (hd.heap_1_39 P) (.ref 79) = some (.type "function") := by kernel_rfl
theorem ln_kind : builtinKind "list.__new__" = some .builtinFn := by decide +kernel
theorem ln_split : splitId "list.__new__" = some ("list", "__new__") := by decide +kernel
theorem ln_args (C : Addr) : ∀ sg, Manifest.signature? "list.__new__" = some sg → Bind.checkArgs "list.__new__" sg ⟨[.ref C], []⟩ = pure () := by
  intro sg h
  have : sg = (Manifest.signature? "list.__new__").get (by decide +kernel) := by simp [h]
  subst this
  kernel_rfl
structure AccMakes (M : Model) (h : Heap) : Prop where
  obj : ∃ oc od cd sl, h.get? 142 = some ⟨oc, od, .cls cd, sl⟩ ∧ cd.abstract = false ∧ cd.hasDel = false ∧ cd.mro.isEmpty = false
  made : Looks M h (Bind.madeBy (.ref 142)) (some "list.__new__")
  base : Looks M h (Bind.staticBase (.ref 142)) (.ref 142)
  self : Looks M h (isSubtype (.ref 142) (.ref 142)) true
  top : Looks M h (isSubtype (.ref 142) (.type "list")) true
  call : Looks M h (specialOf (.ref 142) "__call__") (some (.builtin "type.__call__"))
  typ : Looks M h (isInstance (.ref 142) (.type "type")) true
theorem accMakes {M : Model} {h : Heap} {P : Params} (X : (hd.heap_1_39 P).In h) : AccMakes M h := by
  have hc0 := acc_cls P
  have hfl := acc_flags P
  have hs4 := acc_slot4 P
  obtain ⟨oc, od, cd, sl, ho, hc⟩ : ∃ oc od cd sl, (hd.heap_1_39 P).lookup 142 = some ⟨oc, od, .cls cd, sl⟩ ∧ clsIn (hd.heap_1_39 P) 142 = some cd := by
    have h9 := hc0
    unfold clsIn at h9
    split at h9
    · rename_i c d cd' sl ho
      exact ⟨_, _, _, _, ho, by unfold clsIn; rw [ho]⟩
    · cases h9
  rw [hc] at hc0 hfl
  cases hc0
  rw [ho] at hs4
  have e3 : (sl.toList[4]?).join = some (.builtin "list.__new__") := Option.some.inj hs4
  have hm : Looks M h (mroOf (.ref 142)) [.ref 142, .type "list", .type "object"] := (looks_clsIn X hc).andThen .now
  have made : Looks M h (Bind.madeBy (.ref 142)) (some "list.__new__") := by
    intro A Q E s k q
    unfold Bind.madeBy
    refine wpAny_bind (hm A _ E s k ?_)
    rw [List.forIn_cons]
    refine wpAny_bind (wpAny_bind (wpAny_bind (wpAny_bind (wpAny_loadPart (k _ _ (X _ _ ho)) (wpAny_pure ?_)))))
    dsimp only
    rw [← Array.getElem?_toList, e3]
    exact wpAny_pure (wpAny_pure (wpAny_pure q))
  refine ⟨⟨oc, od, _, sl, X _ _ ho, rfl, rfl, rfl⟩, made, ?_, looks_mroIn X (acc_mroSelf P), looks_mroIn X (acc_mroL P), looks_specialIn X (acc_call P), looks_instIn X (acc_type P)⟩
  intro A Q E s k q
  unfold Bind.staticBase
  refine wpAny_bind (hm A _ E s k ?_)
  rw [List.forIn_cons]
  exact wpAny_bind (wpAny_bind (wpAny_bind (made A _ E s k (wpAny_pure (wpAny_pure (wpAny_pure q))))))
section
variable {prog : Program} {w : World} {A : Around} {R : Result → Shared → Prop} {h : Heap} {g : Array GenState} {d : Drawn} {t : Nat} {os : OsState}
theorem acc_new (Y : AccMakes (model prog w) h)
    (hq : R (.ok (.ret (.ref (h.objs.size + 1)))) ⟨(h.push emptyDict).push (accO h.objs.size [] 0), g, d, t, os⟩) :
    codeAny (model prog w) A (.call (.builtin "list.__new__") ⟨[.ref 142], []⟩) R ⟨h, g, d, t, os⟩ := by
  obtain ⟨⟨oc, od, cd, sl, hC, e1, e2, e4⟩, made, base, self, top, call, typ⟩ := Y
  refine codeAny_of_tree ?_
  show wpAny _ A.in1 (do checkBuiltinCall "list.__new__" ⟨[.ref 142], []⟩; again (.builtin "list.__new__" ⟨[.ref 142], []⟩)) _ _ _
  refine wpAny_bind ?_
  obtain ⟨sg, hsg⟩ : ∃ sg, Manifest.signature? "list.__new__" = some sg := ⟨_, rfl⟩
  have har := ln_args 142 sg hsg
  simp only [checkBuiltinCall, ln_kind, ln_split, hsg]
  repeat (first | simp only [har, Option.map_some, bne_self_eq_false, Bool.false_eq_true, if_false, Bool.not_true, show (("__new__" : String) == "__new__") = true from rfl, if_true] | lk)
  refine ⟨plainId_quiet F.plain_list_new _, codeAny_builtin_stack F.entry_list_new rfl fun p st => ?_⟩
  rw [Around.under_plainId F.plain_list_new _]
  have hown := owner_list_new
  have hC' := Heap.get?_push_of_some (accO (h.push emptyDict).objs.size.pred [] 0) (Heap.get?_push_of_some emptyDict hC)
  dsimp only
  simp only [hown]
  repeat (first | simp only [har, Option.map_some, bne_self_eq_false, Bool.false_eq_true, if_false, Bool.not_true] | lk)
  refine nd_load (Heap.get?_push_of_some _ (Heap.get?_push_of_some _ hC)) ?_
  repeat (first | simp only [e2, Bool.false_eq_true, if_false] | lk)
  rw [Heap.size_push]
  exact hq
theorem acc_make (X : (hd.heap_1_39 w.params).In h)
    (hq : codeAny (model prog w) (A.under (.builtin "type.__call__" ⟨[.ref 142], []⟩)) (.call (.ref 79) ⟨[.ref (h.objs.size + 1)], []⟩) (InitBack (h.objs.size + 1) R) ⟨(h.push emptyDict).push (accO h.objs.size [] 0), g, d, t, os⟩) :
    codeAny (model prog w) A (.call (.ref 142) ⟨[], []⟩) R ⟨h, g, d, t, os⟩ := by
  have Y : AccMakes (model prog w) h := accMakes X
  have Y' := Y
  obtain ⟨⟨oc, od, cd, sl, hC, e1, e2, e4⟩, made, base, self, top, call, typ⟩ := Y
  refine codeAny_of_tree ?_
  show wpAny _ _ (callAny (.ref 142) _) _ _ _
  refine nd_load hC ?_
  show wpAny _ _ (callAny.viaDunder (.ref 142) _) _ _ _
  unfold callAny.viaDunder
  refine wpAny_bind (call.at ?_)
  dsimp only
  rw [tc_bind]
  refine wpAny_bind (wpAny_pure (wpAny_bind (wpAny_pure ?_)))
  refine wpAny_pure (a := Fin.again (.call (.builtin "type.__call__") ⟨[.ref 142], []⟩)) (And.intro rfl ?_)
  refine codeAny_call_builtin_at (Code.quiet_builtin _ (by decide +kernel)) entry_typeCall ?_
  with_reducible refine check_slot tc_kind tc_split typ (tc_args _ _ _) ?_
  unfold Builtin.«type.__call__»
  have hm : Looks (model prog w) h (mroOf (.ref 142)) cd.mro := ((Looks.ld (part := none) hC).andThen .now).andThen .now
  repeat (first | simp only [e4, Bool.false_eq_true, if_false] | with_reducible refine wpAny_call ?_ | lk)
  refine acc_new Y' ?_
  have k : ∀ b o, h.get? b = some o → ((h.push emptyDict).push (accO h.objs.size [] 0)).get? b = some o := fun b o e => Heap.get?_push_of_some _ (Heap.get?_push_of_some _ e)
  have hx : ((h.push emptyDict).push (accO h.objs.size [] 0)).get? (h.objs.size + 1) = some (accO h.objs.size [] 0) := by heap_get
  have t1 : Looks (model prog w) ((h.push emptyDict).push (accO h.objs.size [] 0)) (typeOf (.ref (h.objs.size + 1))) (.ref 142) := (Looks.ld hx).andThen .now
  have s1 := self.keeps k
  have i1 := (looks_findIn (M := model prog w) X (acc_inits _)).keeps k
  have b1 := (bind_fn (M := model prog w) X (.ref (h.objs.size + 1)) (acc_initT _)).keeps k
  unfold isInstance callSpecial? specialOf
  repeat (first | with_reducible refine wpAny_call ?_ | lk)
  refine codeAny_mono hq fun r s' z => ?_
  rcases r with e | (v | _ | _ | _) <;> first | exact z | exact z.elim | skip
  obtain ⟨rfl, z⟩ := z
  exact wpAny_pure (wpAny_pure z)
end
end

section
open PySem PySem.W PyProof.Rows PySem.Spec PySem.Calls
set_option Elab.async false
set_option maxRecDepth 100000
set_option maxHeartbeats 8000000
set_option linter.all false
theorem fresh_E11 {prog : Program} {w : World} {A : Around} {E : Value → Shared → Prop} {s : Shared} {Q : Value → Shared → Prop} (h : wpAny (model prog w) A (call (.int 0 0) []) Q E s) : wpAny (model prog w) A (call (.int 0 0) []) Q E s := by
  k_with_none
  w_top off
  first | (walk1; fail) | exact h
theorem callWith_b {M : Model} {A : Around} {E : Value → Shared → Prop} {s : Shared} {h₀ : Heap} {L : Addr} {news : List (Addr × Obj)} {pos : Pos} {u x : Addr} {i bt : String} {args : List (Bool × Sem Value)} {Q : Value → Shared → Prop} (hbt : bt = "method-wrapper" ∨ bt = "builtin_function_or_method") (N : News h₀ L s.heap news) (hm : (u, boundO bt i x) ∈ news) (ha : args = [])
    (h : wpAny M A (call (.ref u) []) Q E s) : wpAny M A (callWith pos (.ref u) [] args []) Q E s := by
  subst ha
  unfold callWith
  refine wpAny_bind (wpAny_holding (wpAny_of_eq (show evalArgs (.ref u) true [] [] = pure ⟨[], []⟩ from rfl) (wpAny_bind (wpAny_standAt ?_))))
  refine wpAny_bind (m := keeperOf (.ref u)) ?_
  unfold keeperOf
  refine wpAny_bind (wpAny_load (N _ hm).1 ?_)
  have e1 : (Value.type bt != Value.type "method") = true := by rcases hbt with rfl | rfl <;> decide
  have e2 : (Value.type bt == Value.type "builtin_function_or_method" || Value.type bt == Value.type "method-wrapper") = true := by rcases hbt with rfl | rfl <;> decide
  simp only [boundO, e1, e2, if_true]
  refine wpAny_pure ?_
  exact wpAny_bind (wpAny_mono h (fun r s₂ hr => wpAny_bind (wpAny_holding (wpAny_point (wpAny_pure hr)))) fun _ _ x => x)
theorem line_E11_1 : True := by
  k_with "own_my_room" => (first | omega | ktr_room)
  trivial
theorem line_E11_2 : True := by
  k_with "own_my_senter" => (refine' ks_code_super ?k1 ?k2 ?k3 ?k4 ?k5 ?kA ?kF ?kK ?k6 ?k7 ?k8 ?k9 ?kB ?_ ?c1 ?c2 ?c3 ?c4; (case kA => exact rfl); (case kF => exact rfl); (case kK => first | exact rfl | assumption); (case k1 => k_asm); (case k2 => k_asm); (case k3 => k_asm); (case k4 => k_asm); (case k5 => k_asm); (case k6 => k_is); (case k7 => k_is); (case k8 => (k_extra "own_my_room")); (case k9 => exact BindsTo.of_eq rfl); (case kB => exact locs rfl); (case c1 => decide); (case c2 => exact rfl); (case c3 => exact rfl); (case c4 => exact rfl); intro g' L' h' FG' F' N' B' X' T' l1; (try k_lt l1); (try dsimp only); (try k_lift B'))
  trivial
theorem line_E11_3 : True := by
  k_with "own_k_acc" => (exact inst_acc (by k_asm) (by k_mem) (by k_mem))
  trivial
theorem line_E11_4 : True := by
  k_with "wpAt" => (ks_step "attributeBase Call"; k_here; k_dflt (refine ks_node (by k_asm) (by k_asm) (by k_asm) (by k_asm) (by k_is) (by rfl) (by rfl) (by (k_extra "own_k_acc")) (by k_is) (by rfl) (by first | rfl | decide +kernel) (by k_is) (by k_is) (by k_is) (by k_is) (by decide) (by rfl) (by rfl) (by rfl) (by rfl) (by decide +kernel) (by first | boot_by_name | rfl | kernel_rfl) ?_; intro so' h' F' N' l1; (try k_lt l1)))
  trivial
theorem line_E11_5 : True := by
  k_with "wpAt" => (ks_step "eval Call"; k_here; k_dflt (refine ks_wpAt_MethodCall ?_))
  trivial
theorem line_E11_6 : True := by
  k_with "wpAt" => (k_here; k_dflt ((show PySem.wpAt _ _ _ (execs (_ :: _) _) _ _ _); refine ks_wpAt_execs_cons ?_))
  trivial
theorem line_E11_7 : True := by
  k_with "getMethod ref" => (k_here; k_dflt (first
    | (refine acc_superW (by k_asm) (by k_asm) (by k_asm) (by k_mem) (by k_mem) (by k_mem) (along_len _) ty_len own_len (by decide) ?_; intro q' h' F' N' l1; (try k_lt l1))
    | (refine acc_superW (by k_asm) (by k_asm) (by k_asm) (by k_mem) (by k_mem) (by k_mem) (along_init _) ty_init own_init (by decide) ?_; intro q' h' F' N' l1; (try k_lt l1))
    | (refine acc_superM (by k_asm) (by k_asm) (by k_asm) (by k_mem) (by k_mem) (by k_mem) (along_pop _) ty_pop own_pop told_pop (by decide) ?_; intro q' h' F' N' l1; (try k_lt l1))))
  trivial
theorem line_E11_8 : True := by
  k_with "call ref" => (k_here; k_dflt (first
    | (refine bound_len (by k_asm) (by k_mem) (by k_mem) ?_; intro t' k')))
  trivial
theorem line_E11_9 : True := by
  k_with "callWith ref" => (k_here; k_dflt (first
    | (refine callWith_b (.inl rfl) (by k_asm) (by k_mem) rfl ?_)
    | (refine callWith_b (.inr rfl) (by k_asm) (by k_mem) rfl ?_)))
  trivial
theorem upd_mid {x : Addr} {o o' : Obj} {post : List (Addr × Obj)} (o2 : ∀ p ∈ post, p.1 ≠ x) : ∀ {pre : List (Addr × Obj)}, (∀ p ∈ pre, p.1 ≠ x) → Upd x o o' (pre ++ (x, o) :: post) (pre ++ (x, o') :: post)
  | [], _ => .head o2
  | p :: r, h => .tail (h p (.head _)) (upd_mid o2 (fun q hq => h q (.tail _ hq)))
theorem upd_push {x D : Addr} {o o' t : Obj} {pre post : List (Addr × Obj)} (o1 : ∀ p ∈ pre, p.1 ≠ x) (o2 : ∀ p ∈ post, p.1 ≠ x) (hl : ∀ p ∈ pre ++ (x, o) :: post, p.1 < D) : Upd x o o' ((D, t) :: (pre ++ (x, o) :: post)) ((D, t) :: (pre ++ (x, o') :: post)) :=
  .tail (fun e => by
    have := hl (x, o) (List.mem_append.mpr (.inr (.head _)))
    exact Nat.lt_irrefl _ (by rw [← e] at this; exact this)) (upd_mid o2 o1)
theorem ne_of_all {x D : Addr} {o : Obj} {l : List (Addr × Obj)} (h : ∀ p ∈ l, p.1 < D) (hx : (x, o) ∈ l) : D ≠ x := fun e => Nat.lt_irrefl _ (e ▸ h _ hx)
theorem ne_of_and {a b x D : Addr} {o : Obj} {l : List (Addr × Obj)} (h : a < b ∧ AllLt D l) (hx : (x, o) ∈ l) : D ≠ x := fun e => lt_ne h.2 _ hx e.symm
theorem acc_find_pc (P : Params) : findIn (hd.heap_1_39 P) (.ref 142) "part_count" = some (some (.ref 139)) := by kernel_rfl
theorem acc_find_push (P : Params) : findIn (hd.heap_1_39 P) (.ref 142) "push" = some (some (.ref 86)) := by kernel_rfl
theorem acc_find_pf (P : Params) : findIn (hd.heap_1_39 P) (.ref 142) "pop_from" = some (some (.ref 94)) := by kernel_rfl
theorem acc_find_pop (P : Params) : findIn (hd.heap_1_39 P) (.ref 142) "pop" = some (some (.ref 102)) := by kernel_rfl
theorem ty_139 (P : Params) : typeIn (hd.heap_1_39 P) (.ref 139) = some (.type "function") := by kernel_rfl
theorem ty_86 (P : Params) : typeIn (hd.heap_1_39 P) (.ref 86) = some (.type "function") := by kernel_rfl
theorem ty_94 (P : Params) : typeIn (hd.heap_1_39 P) (.ref 94) = some (.type "function") := by kernel_rfl
theorem ty_102 (P : Params) : typeIn (hd.heap_1_39 P) (.ref 102) = some (.type "function") := by kernel_rfl
section
variable {prog : Program} {w : World} {A : Around} {E : Value → Shared → Prop} {s : Shared} {h₀ : Heap} {L : Addr} {m : Str → Option Value} {news : List (Addr × Obj)} {x dx : Addr} {vs : List Value} {n : Nat} {od : Obj} {pl : Sem Bool} {Q : Value × List Value → Shared → Prop}
theorem acc_m {f : Value} {tf : String} {name : Str} (F : Fr h₀ L s.heap m) (X₀ : (hd.heap_1_39 w.params).In h₀) (N : News h₀ L s.heap news) (hx : (x, accO dx vs n) ∈ news) (hdx : (dx, od) ∈ news) (hf : findIn (hd.heap_1_39 w.params) (.ref 142) name = some (some f)) (ht : typeIn (hd.heap_1_39 w.params) f = some (.type tf)) (htf : tf = "function" ∨ tf = "method_descriptor")
    (hs : shadowIn (some od) name = some false) (h : Q (f, [.ref x]) s) : wpAny (model prog w) A (getMethod (.ref x) name pl) Q E s :=
  acc_method (X₀.keeps F.keep) (inst_acc N hx hdx) (acc_gets _) (acc_getsNo _) hf ht htf hs h
end
theorem line_E11_10 : True := by
  k_with "own_k_accm" => (first
    | (refine acc_m (by k_asm) (by k_asm) (by k_asm) (by k_mem) (by k_mem) (acc_find_pc _) (ty_139 _) (.inl rfl) (by first | assumption | rfl | kernel_rfl) ?_)
    | (refine acc_m (by k_asm) (by k_asm) (by k_asm) (by k_mem) (by k_mem) (acc_find_push _) (ty_86 _) (.inl rfl) (by first | assumption | rfl | kernel_rfl) ?_)
    | (refine acc_m (by k_asm) (by k_asm) (by k_asm) (by k_mem) (by k_mem) (acc_find_pf _) (ty_94 _) (.inl rfl) (by first | assumption | rfl | kernel_rfl) ?_)
    | (refine acc_m (by k_asm) (by k_asm) (by k_asm) (by k_mem) (by k_mem) (acc_find_pop _) (ty_102 _) (.inl rfl) (by first | assumption | rfl | kernel_rfl) ?_)
    | (refine acc_m (by k_asm) (by k_asm) (by k_asm) (by k_mem) (by k_mem) (acc_append _) (append_type _) (.inr rfl) (by first | assumption | rfl | kernel_rfl) ?_))
  trivial
theorem pc_call (w : World) (mean : ExcName → Option Value) (mg mb : Str → Option Value) : ∀ {dp un : Nat} {gd : Option (List Code)} {cn : Str} {cs : Scope} {a : Addr} {ccd : Value} {cl : List (Str × Addr)} {outer : List Env} {A₀ : Around} {base h₀ : Heap} {L : Addr} {m : Str → Option Value} {news : List (Addr × Obj)} {s : Shared} {x dx : Addr} {vs : List Value} {n : Nat} {od : Obj} {Q E : Value → Shared → Prop}
    (B : Below A₀ base outer h₀) (F : Fr h₀ L s.heap m) (X : (hd.heap_1_39 w.params).In h₀) (N : News h₀ L s.heap news) (T : Top hd.view_1_40 LS mean mg mb h₀) (hk : cs.kind = .function) (hd1 : dp + 2 < recursionLimit) (hu : un + 16 < cLine)
    (hx : (x, accO dx vs n) ∈ news) (hdx : (dx, od) ∈ news) (h : ∀ t h' k, Fr h₀ L h' m → News h₀ L h' news → Q (.int (vs.length : Int) t) { s with heap := h', toks := k }),
    wpAny (model PySem.Challenge.rw_xn0010_01.row.prog w) (ktrTop dp un gd cn cs L a ccd cl outer) (call (.ref 139) [.ref x]) Q E s := by
  w_on
  k_fill
  intro dp un gd cn cs a ccd cl outer A₀ base h₀ L m news s x dx vs n od Q E B F X N T hk hd1 hu hx hdx h
  refine wpAny_call ?_
  k_dflt (k_extra "own_my_senter")
  k_steps
  exact h _ _ _ (by k_asm) (fun p hp => (by assumption : News h₀ L _ _) p (List.mem_cons_of_mem _ (List.mem_cons_of_mem _ hp)))
theorem push_call (w : World) (mean : ExcName → Option Value) (mg mb : Str → Option Value) : ∀ {dp un : Nat} {gd : Option (List Code)} {cn : Str} {cs : Scope} {a : Addr} {ccd : Value} {cl : List (Str × Addr)} {outer : List Env} {A₀ : Around} {base h₀ : Heap} {L : Addr} {m : Str → Option Value} {pre post : List (Addr × Obj)} {s : Shared} {x dx : Addr} {vs : List Value} {n : Nat} {od : Obj} {a1 a2 : Str} {t1 t2 : Tok} {Q E : Value → Shared → Prop}
    (B : Below A₀ base outer h₀) (F : Fr h₀ L s.heap m) (X : (hd.heap_1_39 w.params).In h₀) (N : News h₀ L s.heap (pre ++ (x, accO dx vs n) :: post)) (T : Top hd.view_1_40 LS mean mg mb h₀) (hk : cs.kind = .function) (hd1 : dp + 2 < recursionLimit) (hu : un + 16 < cLine)
    (hdx : (dx, od) ∈ pre ++ post) (hsh : shadowIn (some od) "append" = some false) (hsz : vs.length ≤ 10000) (o1 : ∀ p ∈ pre, p.1 ≠ x) (o2 : ∀ p ∈ post, p.1 ≠ x)
    (h : ∀ h' k q, Fr h₀ L h' m → News h₀ L h' ((q, tupO [.str a1 t1, .str a2 t2] 0) :: (pre ++ (x, accO dx (vs ++ [.ref q]) (n + 1)) :: post)) → (∀ p ∈ pre ++ (x, accO dx vs n) :: post, p.1 < q) → Q .none { s with heap := h', toks := k }),
    wpAny (model PySem.Challenge.rw_xn0010_01.row.prog w) (ktrTop dp un gd cn cs L a ccd cl outer) (call (.ref 86) [.ref x, .str a1 t1, .str a2 t2]) Q E s := by
  w_on
  k_fill
  intro dp un gd cn cs a ccd cl outer A₀ base h₀ L m pre post s x dx vs n od a1 a2 t1 t2 Q E B F X N T hk hd1 hu hdx hsh hsz o1 o2 h
  have hdx' : (dx, od) ∈ pre ++ (x, accO dx vs n) :: post := by
    rcases List.mem_append.mp hdx with h | h
    · exact List.mem_append.mpr (.inl h)
    · exact List.mem_append.mpr (.inr (.tail _ h))
  have hx : (x, accO dx vs n) ∈ pre ++ (x, accO dx vs n) :: post := List.mem_append.mpr (.inr (.head _))
  refine wpAny_call ?_
  k_dflt ktr_enter
  k_with "getMethod ref" => (k_dflt (k_extra "own_k_accm"))
  k_steps
  refine acc_app (by k_asm) (by k_asm) (by k_asm) (.tail _ hdx') (upd_push o1 o2 (by assumption)) hsz ?_
  intro h2 F2 N2
  k_steps
  exact h _ _ _ (by k_asm) (by k_asm) (by assumption)
theorem pop_call (w : World) (mean : ExcName → Option Value) (mg mb : Str → Option Value) : ∀ {dp un : Nat} {gd : Option (List Code)} {cn : Str} {cs : Scope} {a : Addr} {ccd : Value} {cl : List (Str × Addr)} {outer : List Env} {A₀ : Around} {base h₀ : Heap} {L : Addr} {m : Str → Option Value} {pre post : List (Addr × Obj)} {s : Shared} {x dx : Addr} {vs : List Value} {v : Value} {n : Nat} {od : Obj} {Q E : Value → Shared → Prop}
    (B : Below A₀ base outer h₀) (F : Fr h₀ L s.heap m) (X : (hd.heap_1_39 w.params).In h₀) (N : News h₀ L s.heap (pre ++ (x, accO dx (vs ++ [v]) n) :: post)) (T : Top hd.view_1_40 LS mean mg mb h₀) (hk : cs.kind = .function) (hd1 : dp + 3 < recursionLimit) (hu : un + 24 < cLine)
    (hdx : (dx, od) ∈ pre ++ post) (hsh : shadowIn (some od) "part_count" = some false) (hsz : vs.length ≤ 10000) (o1 : ∀ p ∈ pre, p.1 ≠ x) (o2 : ∀ p ∈ post, p.1 ≠ x)
    (h : ∀ h' k, Fr h₀ L h' m → News h₀ L h' (pre ++ (x, accO dx vs (n + 1)) :: post) → Q v { s with heap := h', toks := k }),
    wpAny (model PySem.Challenge.rw_xn0010_01.row.prog w) (ktrTop dp un gd cn cs L a ccd cl outer) (call (.ref 102) [.ref x]) Q E s := by
  w_on
  k_fill
  intro dp un gd cn cs a ccd cl outer A₀ base h₀ L m pre post s x dx vs v n od Q E B F X N T hk hd1 hu hdx hsh hsz o1 o2 h
  have hdx' : ∀ {o : Obj}, (dx, od) ∈ pre ++ (x, o) :: post := by
    rcases List.mem_append.mp hdx with h | h
    · exact List.mem_append.mpr (.inl h)
    · exact List.mem_append.mpr (.inr (.tail _ h))
  have hdx'' := @hdx' (accO dx (vs ++ [v]) n)
  have hx : (x, accO dx (vs ++ [v]) n) ∈ pre ++ (x, accO dx (vs ++ [v]) n) :: post := List.mem_append.mpr (.inr (.head _))
  refine wpAny_call ?_
  k_dflt (k_extra "own_my_senter")
  have r1 : dp + 1 + 2 < recursionLimit := by omega
  have u1 : un + 3 + 16 < cLine := by omega
  k_with "getMethod ref" => (k_dflt (first | (k_extra "own_k_accm")))
  k_with "call ref" => (k_dflt (refine pc_call w mean mg mb (by k_asm) (by k_asm) (by k_asm) (by k_asm) (by k_asm) (by first | exact rfl | assumption) r1 u1 (by k_mem) (by k_mem) ?_; intro t9 h9 k9 F9 N9))
  k_steps
  · exact absurd (by assumption : (((vs ++ [v]).length : Nat) : Int) = 0) (by simp; omega)
  refine bound_pop (by k_asm) (by k_asm) (by k_asm) (.head _) (.tail _ (.tail _ hdx'')) (.tail ?_ (.tail ?_ (upd_mid o2 o1))) hsz ?_
  · exact ne_of_and (by assumption) hx
  · exact ne_of_all (by assumption) hx
  intro h7 k7 F7 N7
  k_steps
  exact h _ _ (by k_asm) (fun p hp => (by assumption : News h₀ L _ _) p (List.mem_cons_of_mem _ (List.mem_cons_of_mem _ hp)))
end

section
open PySem PySem.W PyProof.Rows PySem.Spec PySem.Calls
set_option Elab.async false
set_option maxRecDepth 100000
set_option maxHeartbeats 8000000
set_option linter.all false
theorem fresh_E12 {prog : Program} {w : World} {A : Around} {E : Value → Shared → Prop} {s : Shared} {Q : Value → Shared → Prop} (h : wpAny (model prog w) A (call (.int 0 0) []) Q E s) : wpAny (model prog w) A (call (.int 0 0) []) Q E s := by
  k_with_none
  w_top off
  first | (walk1; fail) | exact h
theorem line_E12_1 : True := by
  k_with "own_my_denter" => (refine' code_def ?k1 ?k2 ?k3 ?k4 ?k5 ?kA ?kF ?kK ?k6 ?k7 ?k8 ?k9 ?kB ?_ ?c2 ?c3 ?c4 ?c5; (case kA => exact rfl); (case kF => exact rfl); (case kK => assumption); (case k1 => k_asm); (case k2 => k_asm); (case k3 => k_asm); (case k4 => k_asm); (case k5 => k_asm); (case k6 => k_is); (case k7 => k_is); (case k8 => ktr_room); (case k9 => first | exact binds_K (by k_in) rfl (by k_is) rfl rfl rfl | exact BindsTo.of_eq rfl); (case c5 => decide); (case kB => exact locs rfl); (case c2 => exact rfl); (case c3 => exact rfl); (case c4 => exact rfl); k_whole; intro g' L' h' FG' F' N' B' X' T'; (try dsimp only); (try k_fold))
  trivial
theorem acc_getitem (P : Params) : findIn (hd.heap_1_39 P) (.ref 142) "__getitem__" = some (some (.builtin "list.__getitem__")) := by kernel_rfl
theorem acc_setitem (P : Params) : findIn (hd.heap_1_39 P) (.ref 142) "__setitem__" = some (some (.builtin "list.__setitem__")) := by kernel_rfl
theorem acc_noDeque (P : Params) : mroIn (hd.heap_1_39 P) 142 (.type "collections.deque") = some false := by kernel_rfl
theorem kind_si : builtinKind "list.__setitem__" = some .slot := by decide +kernel
theorem split_si : splitId "list.__setitem__" = some ("list", "__setitem__") := by decide +kernel
theorem plain_si : plainId "list.__setitem__" = true := by decide +kernel
theorem entry_l_si : entryFor table "list.__setitem__" = some Builtin.«list.__setitem__» := entryFor_of_tree (by kernel_rfl)
theorem args_l_si (a b c : Value) : argsOk "list.__setitem__" ⟨[a, b, c], []⟩ := by unfold argsOk; kernel_rfl
theorem slot_l_si : Slot "list" "__setitem__" "list.__setitem__" := .of (owner := "list") (n := "__setitem__") (by rw [typeLookup_type, builtinLookup_eq_fast]; kernel_rfl) (by decide +kernel) (by decide +kernel) (by decide +kernel)
    (by first | exact .inl (by decide +kernel) | exact .inr (by decide +kernel)) (by rw [isSubtype_type]; kernel_rfl)
theorem kind_gi : builtinKind "list.__getitem__" = some .slot ∨ builtinKind "list.__getitem__" = some .method := by first | exact .inl (by decide +kernel) | exact .inr (by decide +kernel)
theorem split_gi : splitId "list.__getitem__" = some ("list", "__getitem__") := by decide +kernel
theorem plain_gi : plainId "list.__getitem__" = true := by decide +kernel
theorem pick_tail {us ts : List Value} : (slicePick (us ++ ts).toArray (some (us.length : Int)) none none) = ts.toArray := by
  have hb : sliceBounds (some (us.length : Int)) none none (us ++ ts).toArray.size = (((us.length : Nat) : Int), (((us ++ ts).length : Nat) : Int), 1) := by
    simp only [sliceBounds, List.size_toArray, List.length_append]
    simp
    omega
  rw [kmk_pick_nat _ hb]
  simp
section
variable {prog : Program} {w : World} {A : Around} {E : Value → Shared → Prop} {s : Shared} {h₀ : Heap} {L : Addr} {m : Str → Option Value} {news news' : List (Addr × Obj)} {x dx l : Addr} {us ts : List Value} {n : Nat} {od : Obj} {f : Nat → List (Addr × Obj)}
theorem acc_key {k : Value} {name : Str} {Q : Value → Shared → Prop} (X : (hd.heap_1_39 w.params).In s.heap) (I : InstAt s.heap x (accO dx us n) 142 (some od)) (h : Q k s) : wpAny (model prog w) A (sequenceKey (.ref x) k name) Q E s := by
  unfold sequenceKey
  refine wpAny_bind (I.type.here ?_)
  dsimp only
  have hf : Looks (model prog w) s.heap (isSubtype (.ref 142) (.type "collections.deque")) false := looks_mroIn X (acc_noDeque _)
  refine wpAny_bind ?_
  show wpAny _ _ (["collections.deque"].anyM fun n => isSubtype (.ref 142) (.type n)) _ _ s
  simp only [List.anyM]
  refine wpAny_bind (hf.here ?_)
  exact wpAny_pure (wpAny_pure h)
theorem acc_slot {f : String} {name : Str} {args : List Value} {Q : Option Value → Shared → Prop} (X : (hd.heap_1_39 w.params).In s.heap) (I : InstAt s.heap x (accO dx us n) 142 (some od)) (hs : findIn (hd.heap_1_39 w.params) (.ref 142) name = some (some (.builtin f)))
    (hb : bindSpecial (.builtin f) (.ref x) = pure (.builtin f, [.ref x])) (h : wpAny (model prog w) A (call (.builtin f) (.ref x :: args)) (fun v => Q (some v)) E s) : wpAny (model prog w) A (callSpecial? (.ref x) name args) Q E s :=
  wpAny_bind (wpAny_bind (I.type.here ((looks_findIn X hs).here (wpAny_holding (wpAny_bind (wpAny_of_eq hb (wpAny_bind (wpAny_mono h (fun _ _ z => wpAny_pure z) fun _ _ z => z))))))))
theorem acc_getSlice {sl : Addr} {t : Tok} {Q : Value → Shared → Prop} (X : (hd.heap_1_39 w.params).In s.heap) (I : InstAt s.heap x (accO dx (us ++ ts) n) 142 (some od)) (hs : s.heap.IsSliceOf sl (.int (us.length : Int) t) .none .none) (hsz : (us ++ ts).length ≤ 10000)
    (h : Q (.ref s.heap.objs.size) { s with heap := s.heap.push { cls := .type "list", data := .seq ts.toArray } }) : wpAny (model prog w) A (getItem (.ref x) (.ref sl)) Q E s := by
  obtain ⟨os, hos, hcs, hds⟩ := id hs
  have hTs : s.TypeIs (.ref sl) "slice" := ⟨os, hos, hcs⟩
  have hz : (us ++ ts).toArray.size ≤ sizeLine := by rw [List.size_toArray]; unfold sizeLine; omega
  unfold getItem
  try with_reducible refine wpAny_holding ?_
  refine wpAny_bind (acc_key X I ?_)
  refine wpAny_bind (acc_slot X I (acc_getitem _) (slot_list_getitem.bind _) (sub_call plain_gi entry_list_getitem kind_gi split_gi (acc_isList X I) (args_list_getitem _ _) ?_))
  show wpAny _ _ (Builtin.List.listSubscript? (.ref sl) >>= _) _ _ s
  refine wpAny_bind ?_
  unfold Builtin.List.listSubscript?
  refine wpAny_bind (wpAny_specialOf hTs slice_no_index ?_)
  simp only [Option.isNone_none, if_true]
  refine wpAny_pure ?_
  show wpAny _ _ (typeOf (.ref sl) >>= _) _ _ s
  refine wpAny_bind (wpAny_typeOf hTs ?_)
  rw [if_neg (by decide)]
  rw [listSliceParts_eq]
  refine wpAny_bind (wpAny_bind (wpAny_field hos hds (x := .none) rfl (wpAny_bind (wpAny_listPart .none ?_))))
  rw [if_neg (by decide)]
  refine wpAny_bind (wpAny_field hos hds (x := .int _ t) rfl (wpAny_bind (wpAny_listPart (.int _ _) ?_)))
  refine wpAny_bind (wpAny_field hos hds (x := .none) rfl (wpAny_bind (wpAny_listPart .none (wpAny_pure ?_))))
  refine wpAny_bind (m := Builtin.List.listItems (.ref x)) ?_
  unfold Builtin.List.listItems
  refine wpAny_bind (wpAny_seqItems I.at_ rfl (wpAny_pure ?_))
  refine wpAny_bind (wpAny_of_eq (sliceIndices_raw (some (us.length : Int)) none none (us ++ ts).toArray.size (by simp)) ?_)
  refine wpAny_bind (wpAny_newObj_type (wpAny_pure ⟨_, rfl, wpAny_pure ?_⟩) (Nat.le_trans (slicePick_size_le (us ++ ts).toArray (some (us.length : Int)) none none) hz))
  have e := @pick_tail us ts
  unfold slicePick at e
  rw [e]
  exact h
theorem acc_sliceTail {value slice : Expr} {t : Tok} {Q : Value → Shared → Prop} (F : Fr h₀ L s.heap m) (X₀ : (hd.heap_1_39 w.params).In h₀) (N : News h₀ L s.heap news) (hx : (x, accO dx (us ++ ts) n) ∈ news) (hdx : (dx, od) ∈ news) (hsz : (us ++ ts).length ≤ 10000)
    (h : ∀ D h', Fr h₀ L h' m → News h₀ L h' ((D, listOf ts.toArray 0) :: news) → (∀ p ∈ news, p.1 < D) → Q (.ref D) { s with heap := h' })
    (hs : subscripted slice false (.ref x) (.ref s.heap.objs.size) = operate [.ref s.heap.objs.size, .ref x] (getItem (.ref x) (.ref s.heap.objs.size)) := by with_unfolding_all rfl)
    (ht : ∀ r, letTemporaryGo value (.ref x) r = pure () := by intro _; with_unfolding_all rfl) :
    wpAny (model prog w) A (subscriptTail value slice (.ref x) (.ref s.heap.objs.size)) Q E { s with heap := s.heap.push { cls := .type "slice", data := .fields #[.int (us.length : Int) t, .none, .none] } } := by
  have F1 := F.push { cls := .type "slice", data := .fields #[.int (us.length : Int) t, .none, .none] }
  have N1 : News h₀ L (s.heap.push { cls := .type "slice", data := .fields #[.int (us.length : Int) t, .none, .none] }) news := N.grown fun _ _ e => Heap.get?_push_of_some _ e
  have X1 : (hd.heap_1_39 w.params).In (s.heap.push { cls := .type "slice", data := .fields #[.int (us.length : Int) t, .none, .none] }) := X₀.keeps F1.keep
  have I := inst_acc N1 hx hdx
  have N2 := News.push F1 N1 { cls := .type "list", data := .seq ts.toArray }
  have hq := h _ _ (F1.push _) N2 (fun p hp => by rw [Heap.size_push]; exact Nat.lt_succ_of_lt (Heap.lt_size (N p hp).1))
  rw [Heap.size_push] at hq
  unfold subscriptTail
  refine wpAny_bind ?_
  rw [getitemInPython_of_ne (by exact Value.noConfusion)]
  refine wpAny_bind (wpAny_bind (I.type.here ((looks_findIn X1 (acc_getitem _)).here (wpAny_pure ?_))))
  have fin : wpAny (model prog w) A (subscripted slice false (.ref x) (.ref s.heap.objs.size)) (fun r s₃ => wpAny (model prog w) A (letTemporaryGo value (.ref x) r >>= fun _ => pure r) Q E s₃) E { s with heap := s.heap.push { cls := .type "slice", data := .fields #[.int (us.length : Int) t, .none, .none] } } := by
    rw [hs]
    refine wpAny_operating (acc_getSlice X1 I (Heap.IsSliceOf.new ..) hsz (wpAny_bind (wpAny_of_eq (ht _) (wpAny_pure ?_))))
    rw [Heap.size_push]
    exact hq
  first
    | exact wpAny_pure (wpAny_bind fin)
    | exact wpAny_bind (wpAny_pure (wpAny_bind fin))
    | exact wpAny_bind fin
theorem take_head {α : Type} (us ts : List α) : (us ++ ts).toArray.extract 0 us.length = us.toArray := by simp
theorem bounds_tail (us ts : List Value) : sliceBounds (some (us.length : Int)) none none (us ++ ts).toArray.size = (((us.length : Nat) : Int), (((us ++ ts).length : Nat) : Int), 1) := by
  simp only [sliceBounds, List.size_toArray, List.length_append]
  simp
  omega
theorem acc_setSlice {t : Tok} {Q : Unit → Shared → Prop} (F : Fr h₀ L s.heap m) (X₀ : (hd.heap_1_39 w.params).In h₀) (N : News h₀ L s.heap news) (hdx : (dx, od) ∈ news) (hl : (l, listOf #[] 0) ∈ news) (hsz : (us ++ ts).length ≤ 10000)
    (hxl : x ≠ l) (U : ∀ n', Upd x (accO dx (us ++ ts) n) (accO dx us n') news (f n'))
    (h : ∀ h' n' k, Fr h₀ L h' m → News h₀ L h' (f n') → Q () { s with heap := h', toks := k }) :
    wpAny (model prog w) A (setItem (.ref x) (.ref s.heap.objs.size) (.ref l)) Q E { s with heap := s.heap.push { cls := .type "slice", data := .fields #[.int (us.length : Int) t, .none, .none] } } := by
  have F1 := F.push { cls := .type "slice", data := .fields #[.int (us.length : Int) t, .none, .none] }
  have N1 : News h₀ L (s.heap.push { cls := .type "slice", data := .fields #[.int (us.length : Int) t, .none, .none] }) news := N.grown fun _ _ e => Heap.get?_push_of_some _ e
  have X1 : (hd.heap_1_39 w.params).In (s.heap.push { cls := .type "slice", data := .fields #[.int (us.length : Int) t, .none, .none] }) := X₀.keeps F1.keep
  have hx : (x, accO dx (us ++ ts) n) ∈ news := by obtain ⟨pre, post, rfl, _, a, b⟩ := (U 0).split; exact List.mem_append.mpr (.inr (.head _))
  have I := inst_acc N1 hx hdx
  have hos := (Heap.get?_push_at (h := s.heap) (o := { cls := .type "slice", data := .fields #[.int (us.length : Int) t, .none, .none] }) rfl rfl)
  have hTs : Shared.TypeIs { s with heap := s.heap.push { cls := .type "slice", data := .fields #[.int (us.length : Int) t, .none, .none] } } (.ref s.heap.objs.size) "slice" := ⟨_, hos, rfl⟩
  have hTl : Shared.TypeIs { s with heap := s.heap.push { cls := .type "slice", data := .fields #[.int (us.length : Int) t, .none, .none] } } (.ref l) "list" := ⟨_, (N1 _ hl).1, rfl⟩
  have hll := (N1 _ hl).1
  have hxx := I.at_
  have hz : (us ++ ts).toArray.size ≤ sizeLine := by rw [List.size_toArray]; unfold sizeLine; omega
  obtain ⟨hp, g, d, tk, os⟩ := s
  unfold setItem
  try with_reducible refine wpAny_holding ?_
  refine wpAny_bind (acc_key X1 I ?_)
  refine wpAny_bind (acc_slot X1 I (acc_setitem _) (slot_l_si.bind _) (sub_call plain_si entry_l_si (.inl kind_si) split_si (acc_isList X1 I) (args_l_si _ _ _) ?_))
  unfold Builtin.«list.__setitem__» Builtin.List.listBlankSlotArgs
  refine wpAny_bind (wpAny_pure ?_)
  dsimp only
  refine wpAny_bind ?_
  unfold Builtin.List.listSubscript?
  refine wpAny_bind (wpAny_specialOf hTs slice_no_index ?_)
  simp only [Option.isNone_none, if_true]
  refine wpAny_pure ?_
  show wpAny _ _ (typeOf (.ref _) >>= _) _ _ _
  refine wpAny_bind (wpAny_typeOf hTs ?_)
  rw [if_neg (by decide)]
  rw [listSliceParts_eq]
  refine wpAny_bind (wpAny_bind (wpAny_field hos rfl (x := .none) rfl (wpAny_bind (wpAny_listPart .none ?_))))
  rw [if_neg (by decide)]
  refine wpAny_bind (wpAny_field hos rfl (x := .int _ t) rfl (wpAny_bind (wpAny_listPart (.int _ _) ?_)))
  refine wpAny_bind (wpAny_field hos rfl (x := .none) rfl (wpAny_bind (wpAny_listPart .none (wpAny_pure ?_))))
  have hsr : Builtin.List.listSameRef (.ref x) (.ref l) = false := by simp [Builtin.List.listSameRef, hxl]
  have hb := sliceIndices_raw (some (us.length : Int)) none none (us ++ ts).toArray.size (by simp)
  rw [bounds_tail] at hb
  have hmx : (max ((us.length : Nat) : Int) (((us ++ ts).length : Nat) : Int)).toNat = (us ++ ts).length := by simp only [List.length_append]; omega
  have hy : ∃ n', ((hp.push { cls := .type "slice", data := .fields #[.int (us.length : Int) t, .none, .none] }).update x (Obj.mapSeq fun xs => xs.extract 0 us.length ++ #[] ++ xs.extract (us ++ ts).length)).get? x = some (accO dx us n') := by
    rw [Heap.get?_update_self _ hxx (by rfl)]
    refine ⟨if us.length = (us ++ ts).length then n else n + 1, ?_⟩
    simp [accO, Obj.mapSeq]
  obtain ⟨n', hy⟩ := hy
  obtain ⟨F', N'⟩ := acc_change (s := ⟨_, g, d, tk, os⟩) F1 N1 (U n') (Heap.SameBut.update ..) hy
  rw [if_neg (by rw [hsr]; decide)]
  refine wpAny_bind (m := Builtin.List.listAllItems (.ref l) _) ?_
  unfold Builtin.List.listAllItems
  refine wpAny_bind (wpAny_typeOf hTl ?_)
  rw [if_pos (by decide)]
  refine wpAny_listItems hll rfl ?_
  refine wpAny_bind (wpAny_listItems hxx rfl ?_)
  refine wpAny_bind (wpAny_of_eq hb ?_)
  dsimp only
  rw [if_pos (by decide)]
  have hz2 : (us ++ ts).length ≤ sizeLine := by unfold sizeLine; omega
  refine wpAny_bind (wpAny_rule ?_)
  rw [if_neg (by unfold Builtin.List.listTooLong; simp at hz2 ⊢; exact hz2), hmx, Int.toNat_natCast]
  refine wpAny_bind (m := Builtin.List.listUpdate (.ref x) _) ?_
  refine wpAny_updateSeq hxx rfl ?_ hz (Nat.le_trans (by simp) (Nat.le_succ_of_le hz2))
  refine wpAny_bind (wpAny_letGo (wpAny_pure ⟨_, rfl, wpAny_pure ?_⟩))
  exact h _ _ _ F' N'
end
theorem line_E12_2 : True := by
  k_with "own_k_accm" => (first
    | (refine acc_m (by k_asm) (by k_asm) (by k_asm) (by k_mem) (by k_mem) (acc_find_pc _) (ty_139 _) (.inl rfl) (by first | assumption | rfl | kernel_rfl) ?_))
  trivial
theorem pf_call (w : World) (mean : ExcName → Option Value) (mg mb : Str → Option Value) : ∀ {dp un : Nat} {gd : Option (List Code)} {cn : Str} {cs : Scope} {a : Addr} {ccd : Value} {cl : List (Str × Addr)} {outer : List Env} {A₀ : Around} {base h₀ : Heap} {L : Addr} {m : Str → Option Value} {pre post : List (Addr × Obj)} {s : Shared} {x dx : Addr} {us ts : List Value} {t : Tok} {n : Nat} {od : Obj} {Q E : Value → Shared → Prop}
    (B : Below A₀ base outer h₀) (F : Fr h₀ L s.heap m) (X : (hd.heap_1_39 w.params).In h₀) (N : News h₀ L s.heap (pre ++ (x, accO dx (us ++ ts) n) :: post)) (T : Top hd.view_1_40 LS mean mg mb h₀) (hk : cs.kind = .function) (hd1 : dp + 3 < recursionLimit) (hu : un + 24 < cLine)
    (hdx : (dx, od) ∈ pre ++ post) (hsz : (us ++ ts).length ≤ 10000) (o1 : ∀ p ∈ pre, p.1 ≠ x) (o2 : ∀ p ∈ post, p.1 ≠ x)
    (h : ∀ h' k q n', Fr h₀ L h' m → News h₀ L h' ((q, listOf ts.toArray 0) :: (pre ++ (x, accO dx us n') :: post)) → (∀ p ∈ pre ++ (x, accO dx (us ++ ts) n) :: post, p.1 < q) → Q (.ref q) { s with heap := h', toks := k }),
    wpAny (model PySem.Challenge.rw_xn0010_01.row.prog w) (ktrTop dp un gd cn cs L a ccd cl outer) (call (.ref 94) [.ref x, .int (us.length : Int) t]) Q E s := by
  w_on
  k_fill
  intro dp un gd cn cs a ccd cl outer A₀ base h₀ L m pre post s x dx us ts t n od Q E B F X N T hk hd1 hu hdx hsz o1 o2 h
  have hdx' : ∀ {o : Obj}, (dx, od) ∈ pre ++ (x, o) :: post := by
    rcases List.mem_append.mp hdx with h | h
    · exact List.mem_append.mpr (.inl h)
    · exact List.mem_append.mpr (.inr (.tail _ h))
  have hdx'' := @hdx' (accO dx (us ++ ts) n)
  have hx : (x, accO dx (us ++ ts) n) ∈ pre ++ (x, accO dx (us ++ ts) n) :: post := List.mem_append.mpr (.inr (.head _))
  refine wpAny_call ?_
  k_dflt (k_extra "own_my_denter")
  k_steps
  refine acc_sliceTail (s := ⟨_, _, _, _, _⟩) (by k_asm) (by k_asm) (by k_asm) hx hdx'' hsz ?_
  intro D5 h5 F5 N5 l5
  (try dsimp only)
  k_steps
  refine acc_setSlice (s := ⟨_, _, _, _, _⟩) (by k_asm) (by k_asm) (by k_asm) (.tail _ (.tail _ hdx'')) (.head _) hsz ?_ (fun n' => .tail ?_ (.tail ?_ (upd_mid o2 o1))) ?_
  · exact fun e => ne_of_and (by assumption) hx e.symm
  · exact ne_of_and (by assumption) hx
  · exact ne_of_all l5 hx
  intro h6 n' k6 F6 N6
  k_steps
  exact h _ _ _ n' (by k_asm) (fun p hp => (by assumption : News h₀ L _ _) p (List.mem_cons_of_mem _ hp)) l5
theorem pf_call2 (w : World) (mean : ExcName → Option Value) (mg mb : Str → Option Value) {dp un : Nat} {gd : Option (List Code)} {cn : Str} {cs : Scope} {a : Addr} {ccd : Value} {cl : List (Str × Addr)} {outer : List Env} {A₀ : Around} {base h₀ : Heap} {L : Addr} {m : Str → Option Value} {pre post : List (Addr × Obj)} {s : Shared} {x dx : Addr} {us ts : List Value} {i : Int} {t : Tok} {n : Nat} {od : Obj} {Q E : Value → Shared → Prop}
    (B : Below A₀ base outer h₀) (F : Fr h₀ L s.heap m) (X : (hd.heap_1_39 w.params).In h₀) (N : News h₀ L s.heap (pre ++ (x, accO dx (us ++ ts) n) :: post)) (T : Top hd.view_1_40 LS mean mg mb h₀) (hk : cs.kind = .function) (hd1 : dp + 3 < recursionLimit) (hu : un + 24 < cLine)
    (hdx : (dx, od) ∈ pre ++ post) (hsz : (us ++ ts).length ≤ 10000) (hi : i = (us.length : Int)) (o1 : ∀ p ∈ pre, p.1 ≠ x) (o2 : ∀ p ∈ post, p.1 ≠ x)
    (h : ∀ h' k q n', Fr h₀ L h' m → News h₀ L h' ((q, listOf ts.toArray 0) :: (pre ++ (x, accO dx us n') :: post)) → (∀ p ∈ pre ++ (x, accO dx (us ++ ts) n) :: post, p.1 < q) → Q (.ref q) { s with heap := h', toks := k }) :
    wpAny (model PySem.Challenge.rw_xn0010_01.row.prog w) (ktrTop dp un gd cn cs L a ccd cl outer) (call (.ref 94) [.ref x, .int i t]) Q E s := by
  subst hi
  exact pf_call w mean mg mb B F X N T hk hd1 hu hdx hsz o1 o2 h
end

section
open PySem PySem.W PyProof.Rows PySem.Spec PySem.Calls
set_option Elab.async false
set_option maxRecDepth 100000
set_option maxHeartbeats 8000000
set_option linter.all false
theorem fresh_E13 {prog : Program} {w : World} {A : Around} {E : Value → Shared → Prop} {s : Shared} {Q : Value → Shared → Prop} (h : wpAny (model prog w) A (call (.int 0 0) []) Q E s) : wpAny (model prog w) A (call (.int 0 0) []) Q E s := by
  k_with_none
  w_top off
  first | (walk1; fail) | exact h
theorem ne_fst {a D : Addr} {P : Prop} (h : a < D ∧ P) : D ≠ a := Nat.ne_of_gt h.1
theorem ne_snd {a b D : Addr} {P : Prop} (h : a < D ∧ b < D ∧ P) : D ≠ b := Nat.ne_of_gt h.2.1
theorem acc_sa (P : Params) : findIn (hd.heap_1_39 P) (.ref 142) "__setattr__" = some (some (.builtin "object.__setattr__")) := by kernel_rfl
theorem acc_taker (P : Params) : takerIn (hd.heap_1_39 P) 142 "_initial_size" = some none := by kernel_rfl
theorem acc_hasDict (P : Params) : (clsIn (hd.heap_1_39 P) 142).any (·.hasDict) = true := by kernel_rfl
theorem acc_subObj (P : Params) : mroIn (hd.heap_1_39 P) 142 (.type "object") = some true := by kernel_rfl
theorem acc_refuse (x : Addr) : refuseLoop (.ref x) "__setattr__" [.ref 142, .type "list", .type "object"] = pure () := by
  rw [refuseLoop_ref]
  kernel_rfl
theorem acc_findNone (P : Params) : findIn (hd.heap_1_39 P) (.ref 142) "_initial_size" = some none := by kernel_rfl
section
variable {prog : Program} {w : World} {A : Around} {E : Value → Shared → Prop} {s : Shared} {h₀ : Heap} {L : Addr} {m : Str → Option Value} {news : List (Addr × Obj)} {x dx : Addr} {vs : List Value} {n : Nat} {v : Value} {R : Result → Shared → Prop}
theorem acc_osa {od' : Obj} {tk : Tok} {pre post : List (Addr × Obj)} {es : List DictEntry} {n2 : Nat} (F : Fr h₀ L s.heap m) (N : News h₀ L s.heap (pre ++ (dx, dictOf [] 0) :: post)) (X : (hd.heap_1_39 w.params).In s.heap)
    (hx : (x, accO dx vs n) ∈ pre ++ (dx, dictOf [] 0) :: post) (h1 : ∀ p ∈ pre, p.1 ≠ dx) (h2 : ∀ p ∈ post, p.1 ≠ dx)
    (e : Obj.putName "_initial_size" (PyData.keyHash w.params "_initial_size") (.str "_initial_size" s.toks) v (dictOf [] 0) = od') (e' : od'.data = .dict es.toArray n2) (hz : es.length ≤ 1000)
    (h : ∀ h', Fr h₀ L h' m → News h₀ L h' (pre ++ (dx, od') :: post) → R (.ok (.ret .none)) { s with heap := h', toks := s.toks + 1 }) :
    codeAny (model prog w) A (.call (.builtin "object.__setattr__") ⟨[.ref x, .str "_initial_size" tk, v], []⟩) R s := by
  have I := inst_acc N hx (List.mem_append.mpr (.inr (.head _)))
  have SF := PySem.F.store_object
  have sub : Looks (model prog w) s.heap (isInstance (.ref x) (.type "object")) true := I.type.andThen (looks_mroIn X (acc_subObj _))
  refine codeAny_call_builtin SF.slot.plain SF.entry (@check_slot (model prog w) _ _ s "object.__setattr__" "object" "__setattr__" (.ref x) [.str "_initial_size" tk, v] [] _ SF.kind SF.split sub (SF.args (.ref x) (.str "_initial_size" tk) v) ?_)
  have hm : Looks (model prog w) s.heap (mroOf (.ref 142)) [.ref 142, .type "list", .type "object"] := (looks_clsIn X (acc_cls _)).andThen .now
  rw [osa_eq, refuse_eq]
  refine wpAny_bind (wpAny_bind (I.type.here (wpAny_bind (hm.here ?_))))
  rw [acc_refuse]
  refine wpAny_pure (wpAny_bind (I.type.here (wpAny_bind ((looks_findIn X (acc_findNone _)).here (wpAny_bind (Looks.now.here ?_))))))
  dsimp only
  obtain ⟨cd, hc, hd'⟩ := any_some (acc_hasDict w.params)
  obtain ⟨U1, U2⟩ := news_upd (f := Obj.putName "_initial_size" (PyData.keyHash w.params "_initial_size") (.str "_initial_size" s.toks) v) F N h1 h2 e (by obtain ⟨_, _, dd, _⟩ := od'; cases e'; rfl)
  have D := (N (dx, dictOf [] 0) (by simp)).1
  have D' := (U2 (dx, od') (by simp)).1
  have hx' := I.at_
  refine wpAny_bind (wpAny_pure (wpAny_bind (wpAny_bind (wpAny_loadPart hx' (wpAny_bind ((looks_clsIn X hc).here ?_))))))
  rw [hd']
  refine wpAny_pure (a := some dx) (wpAny_bind (wpAny_pure (wpAny_bind ?_)))
  unfold nsSet
  refine wpAny_bind (wpAny_bind (wpAny_askSetting (wpAny_pure (wpAny_bind (wpAny_mkText (wpAny_bind (wpAny_loadPart D ?_)))))))
  dsimp only
  have c : (!(#[] : Array DictEntry).any (·.key.isStr "_initial_size") && (#[] : Array DictEntry).any (·.refKey)) = false := by simp
  rw [aRefKeyMayBeTheName_at, c]
  refine wpAny_updatePart D ?_
  refine wpAny_bind (wpAny_lookBehind D' (by rw [e']; exact pastItsLine_dict (by rw [List.size_toArray, sizeLine_eq]; omega)) ?_)
  exact wpAny_pure (h _ U1 U2)
theorem acc_setattr {pre post : List (Addr × Obj)} {Q : Unit → Shared → Prop} (F : Fr h₀ L s.heap m) (N : News h₀ L s.heap (pre ++ (dx, dictOf [] 0) :: post)) (X₀ : (hd.heap_1_39 w.params).In h₀)
    (hx : (x, accO dx vs n) ∈ pre ++ (dx, dictOf [] 0) :: post) (h1 : ∀ p ∈ pre, p.1 ≠ dx) (h2 : ∀ p ∈ post, p.1 ≠ dx)
    (h : ∀ h' hs tk n2, Fr h₀ L h' m → News h₀ L h' (pre ++ (dx, dictOf [⟨hs, .str "_initial_size" tk, v⟩] n2) :: post) → Q () { s with heap := h', toks := s.toks + 2 }) :
    wpAny (model prog w) A (setAttr (.ref x) "_initial_size" v) Q E s := by
  have X : (hd.heap_1_39 w.params).In s.heap := X₀.keeps F.keep
  have I := inst_acc N hx (List.mem_append.mpr (.inr (.head _)))
  refine set_plain X I (acc_sa _) (acc_osa (s := { s with toks := s.toks + 1 }) (es := putL "_initial_size" (PyData.keyHash w.params "_initial_size") (.str "_initial_size" (s.toks + 1)) v []) (n2 := putN "_initial_size" [] 0) F N X hx h1 h2 (putName_dict ..) rfl (Nat.le_of_ble_eq_true rfl) ?_)
  exact fun h' F' N' => h h' _ _ _ F' N'
theorem shadow_no {hs : Int} {tk : Tok} {v : Value} {n2 : Nat} {name : Str} (hn : (Str.ofString "_initial_size" == name) = false) : shadowIn (some (dictOf [⟨hs, .str "_initial_size" tk, v⟩] n2)) name = some false := by
  have e1 : (Value.str (Str.ofString "_initial_size") tk).isStr name = false := by first | exact hn | simpa [Value.isStr] using hn
  simp [shadowIn, lookIn, dictOf, e1, DictEntry.refKey]
theorem acc_makeK (F : Fr h₀ L s.heap m) (N : News h₀ L s.heap news) (X₀ : (hd.heap_1_39 w.params).In h₀)
    (h : ∀ x dx h', Fr h₀ L h' m → News h₀ L h' ((x, accO dx [] 0) :: (dx, dictOf [] 0) :: news) → (∀ p ∈ news, p.1 < dx) → dx < x →
      codeAny (model prog w) (A.under (.builtin "type.__call__" ⟨[.ref 142], []⟩)) (.call (.ref 79) ⟨[.ref x], []⟩) (InitBack x R) { s with heap := h' }) :
    codeAny (model prog w) A (.call (.ref 142) ⟨[], []⟩) R s := by
  obtain ⟨hh, g, d, t, os⟩ := s
  have N1 := (N.push F emptyDict).push (F.push _) (accO hh.objs.size [] 0)
  rw [Heap.size_push] at N1
  exact acc_make (X₀.keeps F.keep) (h _ _ _ ((F.push _).push _) N1 (fun p hp => Heap.lt_size (N p hp).1) (Nat.lt_succ_self _))
end
theorem line_E13_1 : True := by
  k_with "own_my_room" => (first | omega | ktr_room)
  trivial
theorem line_E13_2 : True := by
  k_with "own_my_senter" => (refine' ks_code_super ?k1 ?k2 ?k3 ?k4 ?k5 ?kA ?kF ?kK ?k6 ?k7 ?k8 ?k9 ?kB ?_ ?c1 ?c2 ?c3 ?c4; (case kA => exact rfl); (case kF => exact rfl); (case kK => first | exact rfl | assumption); (case k1 => k_asm); (case k2 => k_asm); (case k3 => k_asm); (case k4 => k_asm); (case k5 => k_asm); (case k6 => k_is); (case k7 => k_is); (case k8 => (k_extra "own_my_room")); (case k9 => first | exact binds_K (by k_in) rfl (by k_is) rfl rfl rfl | exact BindsTo.of_eq rfl); (case kB => exact locs rfl); (case c1 => decide); (case c2 => exact rfl); (case c3 => exact rfl); (case c4 => exact rfl); intro g' L' h' FG' F' N' B' X' T' l1; (try k_lt l1); (try dsimp only); (try k_lift B'))
  trivial
theorem line_E13_3 : True := by
  k_with "own_k_acc" => (exact inst_acc (by k_asm) (by k_mem) (by k_mem))
  trivial
theorem line_E13_4 : True := by
  k_with "wpAt" => (ks_step "attributeBase Call"; k_here; k_dflt (refine ks_node (by k_asm) (by k_asm) (by k_asm) (by k_asm) (by k_is) (by rfl) (by rfl) (by (k_extra "own_k_acc")) (by k_is) (by rfl) (by first | rfl | decide +kernel) (by k_is) (by k_is) (by k_is) (by k_is) (by decide) (by rfl) (by rfl) (by rfl) (by rfl) (by decide +kernel) (by first | boot_by_name | rfl | kernel_rfl) ?_; intro so' h' F' N' l1; (try k_lt l1)))
  trivial
theorem line_E13_5 : True := by
  k_with "wpAt" => (ks_step "exec Expr"; k_here; k_dflt (refine ks_wpAt_Expr_any ?_))
  trivial
theorem line_E13_6 : True := by
  k_with "wpAt" => (ks_step "eval Call"; k_here; k_dflt (refine ks_wpAt_MethodCall ?_))
  trivial
theorem line_E13_7 : True := by
  k_with "wpAt" => (k_here; k_dflt ((show PySem.wpAt _ _ _ (execs (_ :: _) _) _ _ _); refine ks_wpAt_execs_cons ?_))
  trivial
theorem line_E13_8 : True := by
  k_with "getMethod ref" => (k_here; k_dflt (first
    | (refine acc_superW (by k_asm) (by k_asm) (by k_asm) (by k_mem) (by k_mem) (by k_mem) (along_len _) ty_len own_len (by decide) ?_; intro q' h' F' N' l1; (try k_lt l1))
    | (refine acc_superW (by k_asm) (by k_asm) (by k_asm) (by k_mem) (by k_mem) (by k_mem) (along_init _) ty_init own_init (by decide) ?_; intro q' h' F' N' l1; (try k_lt l1))
    | (refine acc_superM (by k_asm) (by k_asm) (by k_asm) (by k_mem) (by k_mem) (by k_mem) (along_pop _) ty_pop own_pop told_pop (by decide) ?_; intro q' h' F' N' l1; (try k_lt l1))))
  trivial
theorem line_E13_9 : True := by
  k_with "call ref" => (k_here; k_dflt (first
    | (refine bound_len (by k_asm) (by k_mem) (by k_mem) ?_; intro t' k')
    | (refine bound_init (by k_asm) (by k_asm) (by k_mem) (by k_upd) ?_; intro h' k' F' N')))
  trivial
theorem line_E13_10 : True := by
  k_with "callWith ref" => (k_here; k_dflt (first
    | (refine callWith_b (.inl rfl) (by k_asm) (by k_mem) rfl ?_)
    | (refine callWith_b (.inr rfl) (by k_asm) (by k_mem) rfl ?_)))
  trivial
theorem make_call (w : World) (mean : ExcName → Option Value) (mg mb : Str → Option Value) : ∀ {dp un : Nat} {gd : Option (List Code)} {cn : Str} {cs : Scope} {a : Addr} {ccd : Value} {cl : List (Str × Addr)} {outer : List Env} {A₀ : Around} {base h₀ : Heap} {L : Addr} {m : Str → Option Value} {news : List (Addr × Obj)} {s : Shared} {Q E : Value → Shared → Prop}
    (B : Below A₀ base outer h₀) (F : Fr h₀ L s.heap m) (X : (hd.heap_1_39 w.params).In h₀) (N : News h₀ L s.heap news) (T : Top hd.view_1_40 LS mean mg mb h₀) (hk : cs.kind = .function) (hd1 : dp + 3 < recursionLimit) (hu : un + 24 < cLine)
    (h : ∀ h' k x dx hs tk n2 v n, Fr h₀ L h' m → News h₀ L h' ((x, accO dx [] n) :: (dx, dictOf [⟨hs, .str "_initial_size" tk, v⟩] n2) :: news) → (∀ p ∈ news, p.1 < dx) → dx < x → Q (.ref x) { s with heap := h', toks := k }),
    wpAny (model PySem.Challenge.rw_xn0010_01.row.prog w) (ktrTop dp un gd cn cs L a ccd cl outer) (call (.ref 142) []) Q E s := by
  w_on
  k_fill
  intro dp un gd cn cs a ccd cl outer A₀ base h₀ L m news s Q E B F X N T hk hd1 hu h
  refine wpAny_call (acc_makeK F N X ?_)
  intro x dx h1 F1 N1 lu1 lu2
  have l3 : ∀ p ∈ news, p.1 < x := fun p hp => Nat.lt_trans (lu1 p hp) lu2
  k_dflt (k_extra "own_my_senter")
  k_steps
  refine acc_setattr (pre := [(x, accO dx [] 0)]) (post := news) (by k_asm) (by k_asm) (by k_asm) (.head _) (fun p hp => by rcases List.mem_singleton.mp hp with rfl; exact Nat.ne_of_gt lu2) (fun p hp => Nat.ne_of_lt (lu1 p hp)) ?_
  intro h5 hs5 tk5 n5 F5 N5
  (try dsimp only [List.cons_append, List.nil_append] at N5)
  k_steps
  refine bound_init (by k_asm) (by k_asm) (.head _) (.tail (ne_snd (by assumption)) (.tail (ne_fst (by assumption)) (.head ?_))) ?_
  · intro p hp
    rcases List.mem_cons.mp hp with rfl | hp
    · exact Nat.ne_of_lt lu2
    · exact Nat.ne_of_lt (l3 p hp)
  intro h7 k7 F7 N7
  k_steps
  exact h _ _ _ _ _ _ _ _ _ (by k_asm) (fun p hp => (by assumption : News h₀ L _ _) p (List.mem_cons_of_mem _ (List.mem_cons_of_mem _ hp))) lu1 lu2
end

section
open PySem PySem.W PyProof.Rows PySem.Spec PySem.Calls
set_option Elab.async false
set_option maxRecDepth 100000
set_option maxHeartbeats 8000000
set_option linter.all false
noncomputable def AnyEnd (h₀ : Heap) (L : Addr) (J : (Str → Option Value) → List (Addr × Obj) → Prop) (own : List (Addr × Obj)) (s₁ s₂ : Shared) : Prop :=
  ∃ h' tk m' nx, s₂ = { s₁ with heap := h', toks := tk } ∧ Fr h₀ L h' m' ∧ News h₀ L h' (nx ++ own) ∧ J m' nx
noncomputable def AnyPost (h₀ : Heap) (L : Addr) (J : (Str → Option Value) → List (Addr × Obj) → Prop) (own : List (Addr × Obj)) (s₁ : Shared) (Q : Flow → Shared → Prop) (f : Flow) (s₂ : Shared) : Prop :=
  match f with
  | .ret v => Q (.ret v) s₂
  | .brk => Q .next s₂
  | _ => AnyEnd h₀ L J own s₁ s₂
section
variable {prog : Program} {w : World} {A : Around} {E : Value → Shared → Prop} {s : Shared} {env : Env} {h₀ : Heap} {x : Str} {body : List Stmt} {Q : Flow → Shared → Prop}
theorem iter_any {l : Addr} {vs : List Value} {nn : Nat} {m₀ : Str → Option Value} {news : List (Addr × Obj)} (J : Nat → (Str → Option Value) → List (Addr × Obj) → Prop)
    (hh : A.handled = none) (hl : (l, listOf vs.toArray nn) ∈ news) (F : Fr h₀ env.locals s.heap m₀) (N : News h₀ env.locals s.heap news) (hj : J 0 m₀ news)
    (safe : ∀ i m nx, J i m nx → (l, listOf vs.toArray nn) ∈ nx ∧ ∀ p ∈ nx, p.1 ∈ news.map (·.1) ∨ p.2.cls ≠ .type "list_iterator")
    (turn : ∀ i v m₁ news₁ h tk own, vs[i]? = some v → (∀ p ∈ own, p.2.cls = .type "list_iterator") → (∀ p ∈ own, ∀ q ∈ news, p.1 ≠ q.1) → J i m₁ news₁ → Fr h₀ env.locals h (fun y => if y = x then some v else m₁ y) → News h₀ env.locals h (news₁ ++ own) →
      ∀ P : Flow → Shared → Prop, (∀ f s', AnyPost h₀ env.locals (J (i + 1)) own { s with heap := h, toks := tk } Q f s' → P f s') → wpAny (model prog w) A (execs body env) P E { s with heap := h, toks := tk })
    (done : ∀ m₁ news₁ h tk, J vs.length m₁ news₁ → Fr h₀ env.locals h m₁ → News h₀ env.locals h news₁ → Q .next { s with heap := h, toks := tk }) :
    wpAny (model prog w) A (pyIter (.ref l)) (fun it s₂ => LoopAtV prog w A h₀ env x body Q E it s₂) E s := by
  have hol : s.heap.get? l = some (listOf vs.toArray nn) := (N _ hl).1
  have hls : s.heap.IsList l vs.toArray := ⟨_, hol, rfl, nn, rfl⟩
  have hne : l ≠ s.heap.objs.size := Nat.ne_of_lt (Heap.lt_size hol)
  refine wpAny_pyIter_list hls ?_
  have W := Walks.list (prog := prog) (w := w) hh s.heap.objs.size l hne vs.toArray
  have hlen : vs.toArray.size = vs.length := by simp
  rw [hlen] at W
  refine ⟨_, _, _, vs.length, _, _, m₀, news, J, rfl, W, ?_, ?_, ?_, ⟨⟨_, Heap.get?_push_size _ rfl, rfl, rfl⟩, hls.at fun o e => Heap.get?_push_of_some _ e⟩, F.push _, (fun p hp => ⟨Heap.get?_push_of_some _ (N p hp).1, (N p hp).2⟩), hj, ?_, ?_⟩
  · intro hm
    rcases List.mem_cons.mp hm with e | hm
    · exact absurd F.ns.lt (e ▸ Nat.lt_irrefl _)
    · exact (N _ hl).2.1 ((List.mem_singleton.mp hm).symm)
  · intro b hb
    rw [List.mem_singleton.mp hb]
    exact next_is_new F
  · intro p hp hI
    exact absurd (Heap.lt_size (N p hp).1) ((List.mem_singleton.mp hI) ▸ Nat.lt_irrefl _)
  · rintro i v m₁ news₁ s₁ own ⟨hh', tk', rfl⟩ hin hP hJ hoff hown hget hfp hSt F₁ N₁
    obtain ⟨⟨oi, hoi1, hoi2, -⟩, -⟩ := hSt
    have hcls : ∀ p ∈ own.filter (fun p => decide (p.1 = s.heap.objs.size)), p.2.cls = .type "list_iterator" := by
      intro p hp
      have h1 : p.1 = s.heap.objs.size := by simpa using (List.mem_filter.mp hp).2
      have h2 : hh'.get? p.1 = some p.2 := hget p (List.mem_filter.mp hp).1
      rw [h1, hoi1] at h2
      rw [← Option.some.inj h2]; exact hoi2
    have hsep : ∀ p ∈ own.filter (fun p => decide (p.1 = s.heap.objs.size)), ∀ q ∈ news, p.1 ≠ q.1 := by
      intro p hp q hq e
      have h1 : p.1 = s.heap.objs.size := by simpa using (List.mem_filter.mp hp).2
      exact absurd (Heap.lt_size (N q hq).1) (by rw [← e, h1]; exact Nat.lt_irrefl _)
    have hv : vs[i]? = some v := by simpa using hP
    have N₂ : News h₀ env.locals hh' (news₁ ++ own.filter fun p => decide (p.1 = s.heap.objs.size)) := fun p hp => N₁ p ((List.mem_append.mp hp).elim (fun h => List.mem_append.mpr (.inr h)) fun h => List.mem_append.mpr (.inl ((List.mem_filter.mp h).1)))
    have hl₁ := (safe _ _ _ hJ).1
    have hlo : hh'.get? l = some (listOf vs.toArray nn) := (N₁ _ (List.mem_append.mpr (.inr hl₁))).1
    refine wpAny_mono (turn i v m₁ news₁ hh' tk' _ hv hcls hsep hJ F₁ N₂ _ fun _ _ h => h) (fun f s₂ p => ?_) fun _ _ e => e
    have hIown : (s.heap.objs.size, oi) ∈ own.filter (fun p => decide (p.1 = s.heap.objs.size)) := List.mem_filter.mpr ⟨hfp _ (.head _) (next_is_new F) _ hoi1, by simp⟩
    have fin : AnyEnd h₀ env.locals (J (i + 1)) (own.filter fun p => decide (p.1 = s.heap.objs.size)) { s with heap := hh', toks := tk' } s₂ →
        LoopStepU h₀ env.locals [s.heap.objs.size] own (J (i + 1)) { s with heap := hh', toks := tk' } .next s₂ := by
      rintro ⟨h', tk, m', nx, e, F', N', hm⟩
      refine ⟨rfl, h', tk, m', nx, e, F', fun p hp => ?_, fun p hp => ?_, hm⟩
      · rcases List.mem_append.mp hp with h | h
        · by_cases hI : p.1 = s.heap.objs.size
          · exact N' p (List.mem_append.mpr (.inr (List.mem_filter.mpr ⟨h, by simpa using hI⟩)))
          · have h1 : p.1 = l := by
              rcases List.mem_cons.mp (hown p h) with h2 | h2
              · exact absurd h2 hI
              · exact List.mem_singleton.mp h2
            have h2 : hh'.get? p.1 = some p.2 := hget p h
            rw [h1, hlo] at h2
            have h3 : p = (l, listOf vs.toArray nn) := Prod.ext h1 (Option.some.inj h2).symm
            rw [h3]
            exact N' _ (List.mem_append.mpr (.inl (safe _ _ _ hm).1))
        · exact N' p (List.mem_append.mpr (.inl h))
      · intro hI
        have hI' := List.mem_singleton.mp hI
        rcases (safe _ _ _ hm).2 p hp with h1 | h1
        · obtain ⟨q, hq, e⟩ := List.mem_map.mp h1
          exact absurd (Heap.lt_size (N q hq).1) (by rw [e, hI']; exact Nat.lt_irrefl _)
        · have e1 := (N' p (List.mem_append.mpr (.inl hp))).1
          have e2 := (N' _ (List.mem_append.mpr (.inr hIown))).1
          rw [hI'] at e1
          rw [e1] at e2
          exact h1 (by rw [Option.some.inj e2]; exact hoi2)
    cases f with
    | ret v => exact .ret p
    | brk => exact .brk p
    | next => exact .next (fin p)
    | cont => exact .cont (fin p)
  · rintro h' tk m' news' F' N' _ hJ
    exact done m' news' h' tk hJ F' N'
end
end

section
open PySem PySem.W PyProof.Rows PySem.Spec PySem.Calls
set_option Elab.async false
set_option maxRecDepth 100000
set_option maxHeartbeats 8000000
set_option linter.all false
open PySem.Builtin
theorem run_ascii (id : String) (b : Array UInt8) (hb : ∀ c ∈ b.toList, c.toNat < 128) (hsz : b.size ≤ 1000) : _codecs.runDecoder id _codecs.asciiDecoder none true b 0 [] = pure (b.map (·.toNat), b.size) := by
  unfold _codecs.runDecoder
  simp only [Std.Legacy.Range.forIn_eq_forIn_range']
  have step : ∀ (body : Nat → Nat × Array Nat × _codecs.Faults → Sem (ForInStep (Nat × Array Nat × _codecs.Faults))) (f : _codecs.Faults),
      (∀ k p out, p < b.size → out.size ≤ 1000 → body k (p, out, f) = pure (.yield (p + 1, out ++ [(b.getD p 0).toNat].toArray, f))) →
      ∀ (n k p : Nat) (out : Array Nat), p + n = b.size → out.size = p → forIn (List.range' k n) (p, out, f) body = pure (b.size, out ++ ((b.toList.drop p).map (·.toNat)).toArray, f) := by
    intro body f hbody n
    induction n with
    | zero =>
      intro k p out h1 h2
      have e : b.toList.drop p = [] := List.drop_eq_nil_of_le (by rw [Array.length_toList]; omega)
      rw [e, show p = b.size by omega]
      simp
    | succ n ih =>
      intro k p out h1 h2
      rw [List.range'_succ, List.forIn_cons, hbody k p out (by omega) (by omega)]
      show forIn (List.range' (k + 1) n) (p + 1, out ++ [(b.getD p 0).toNat].toArray, f) body = _
      rw [ih (k + 1) (p + 1) _ (by omega) (by simp; omega)]
      have hp : p < b.toList.length := by rw [Array.length_toList]; omega
      rw [List.drop_eq_getElem_cons hp]
      have e2 : b.getD p 0 = b.toList[p] := by rw [Array.length_toList] at hp; simp [Array.getD, hp]
      rw [e2]
      simp
  have hs : ([:b.size] : Std.Legacy.Range).size = b.size := by simp [Std.Legacy.Range.size]
  rw [hs, step _ {} ?_ b.size 0 0 #[] (by omega) rfl]
  · show (pure ((#[] : Array Nat) ++ ((b.toList.drop 0).map (·.toNat)).toArray, b.size) : Sem (Array Nat × Nat)) = _
    congr 2
    apply Array.ext'
    simp
  · intro k p out hp ho
    dsimp only
    have hf : _codecs.asciiDecoder.find true b p = .text [(b.getD p 0).toNat] (p + 1) := by
      show (let c := (b.getD p 0).toNat; if c < 128 then _codecs.Found.char c (p + 1) else _) = _
      have : (b.getD p 0).toNat < 128 := by
        have e2 : b.getD p 0 = b.toList[p]'(by rw [Array.length_toList]; exact hp) := by simp [Array.getD, hp]
        rw [e2]; exact hb _ (List.getElem_mem _)
      dsimp only
      rw [if_pos this]
      rfl
    rw [if_neg (by unfold sizeLine; omega), if_neg (by omega), hf]
theorem road_ascii {id : String} {b : Array UInt8} : _codecs.decodeRoad id b (PySem.Str.ofString "ascii") none [] = (_codecs.runDecoder id _codecs.asciiDecoder none true b 0 [] >>= fun r => mkStr ⟨r.1⟩) := by kernel_rfl
theorem args_dec2 (a b : Value) : argsOk "bytes.decode" ⟨[a, b], []⟩ := by unfold argsOk; kernel_rfl
theorem entry2_cons {c : UInt8} {cs : List UInt8} {t u : Tok} : «bytes.decode» ⟨[.bytes (c :: cs).toArray t, .str (PySem.Str.ofString "ascii") u], []⟩ = (mkStr (PySem.Str.ofString "utf-8") >>= fun _ => mkStr (PySem.Str.ofString "ascii") >>= fun e => mkStr (PySem.Str.ofString "bytes.decode") >>= fun d =>
    call (.builtin "_codecs.decode.text") [.bytes (c :: cs).toArray t, e, .none, d] >>= fun v => ret v) := by kernel_rfl
theorem entry2_nil {t u : Tok} : «bytes.decode» ⟨[.bytes ([] : List UInt8).toArray t, .str (PySem.Str.ofString "ascii") u], []⟩ = (rule "bytes.decode.empty" >>= fun _ => retStr Str.empty) := by kernel_rfl
/-- the text whose codes are the bytes -/
noncomputable def bText (l : List UInt8) : Str := ⟨(l.map (·.toNat)).toArray⟩
theorem bText_nil : bText [] = Str.empty := rfl
theorem meets_text2 {b : Array UInt8} {t t1 t2 : Tok} {d : PySem.Str} (hb : ∀ c ∈ b.toList, c.toNat < 128) (hsz : b.size ≤ 1000) :
    Meets («_codecs.decode.text» ⟨[.bytes b t, .str (PySem.Str.ofString "ascii") t1, .none, .str d t2], []⟩) (fun _ R s => R (.ok (.ret (.str (bText b.toList) s.toks))) { s with toks := s.toks + 1 }) := by
  refine .of_wp fun prog w A R s h => ?_
  show wpAny _ _ (Bytes.bytesLike _ (.bytes b t) >>= fun r => _) _ _ s
  refine wpAny_bind (wpAny_of_eq KBd.like_eq ?_)
  refine wpAny_bind (wpAny_of_eq KBd.held_eq ?_)
  show wpAny _ _ (_codecs.decodeRoad _ b (PySem.Str.ofString "ascii") none [] >>= fun v => _) _ _ s
  rw [road_ascii, run_ascii _ b hb hsz]
  refine wpAny_bind (wpAny_bind (wpAny_pure ?_))
  have e : (⟨b.map (·.toNat)⟩ : Str) = bText b.toList := by unfold bText; congr 1; apply Array.ext'; simp
  rw [e]
  exact wpAny_mkStr (wpAny_pure ⟨_, rfl, h⟩) (by unfold bText Str.length; simp [sizeLine]; omega)
theorem decode2 {prog : Program} {w : World} {A : Around} {E : Value → Shared → Prop} {s : Shared} {t u : Tok} {l : List UInt8} {Q : Value → Shared → Prop} (hb : ∀ c ∈ l, c.toNat < 128) (hsz : l.length ≤ 1000) (h : ∀ t' k, Q (.str (bText l) t') { s with toks := k }) :
    wpAny (model prog w) A (call (.builtin "bytes.decode") [.bytes l.toArray t, .str (PySem.Str.ofString "ascii") u]) Q E s := by
  refine call_meets (S := fun _ R s => ∀ t' k, R (.ok (.ret (.str (bText l) t'))) { s with toks := k }) FB.slot_bytes_decode (typeIs_bytes _ _ _) FB.entry_bytes_decode (args_dec2 _ _) ?_ h
  refine .of_wp fun prog w A R s h => ?_
  cases l with
  | nil =>
    rw [entry2_nil]
    refine wpAny_bind (wpAny_rule ?_)
    refine wpAny_bind (wpAny_mkStr (wpAny_pure ⟨_, rfl, ?_⟩) (by decide))
    exact h _ _
  | cons c cs =>
    rw [entry2_cons]
    refine wpAny_bind (wpAny_mkStr ?_ (by decide))
    refine wpAny_bind (wpAny_mkStr ?_ (by decide))
    refine wpAny_bind (wpAny_mkStr ?_ (by decide))
    exact wpAny_bind (call_function_meets KBd.kind_text KBd.plain_text KBd.entry_text (KBd.args_text _ _ _ _) (meets_text2 (by simpa using hb) (by simpa using hsz)) (wpAny_pure ⟨_, rfl, h _ _⟩))
end

section
open PySem PySem.W PyProof.Rows PySem.Spec PySem.Calls
set_option Elab.async false
set_option maxRecDepth 100000
set_option maxHeartbeats 8000000
set_option linter.all false
theorem fresh_E15 {prog : Program} {w : World} {A : Around} {E : Value → Shared → Prop} {s : Shared} {Q : Value → Shared → Prop} (h : wpAny (model prog w) A (call (.int 0 0) []) Q E s) : wpAny (model prog w) A (call (.int 0 0) []) Q E s := by
  k_with_none
  w_top off
  first | (walk1; fail) | exact h
/-- a word that says the number v -/
noncomputable def WordOk (wd : Str) (v : Int) : Prop := wd.length ≤ 8 ∧ (∀ c ∈ wd.cps.toList, 65 ≤ c ∧ c ≤ 80) ∧ wnum wd.cps.toList = v
noncomputable def mVal (sym a b : Int) : Int := if 239 < sym then joined (sym - 239) b a else joined sym a b
noncomputable def mStep (σ : List Int × Int) (sym : Int) : List Int × Int :=
  if 256 ≤ sym then (σ.1 ++ [sym - 255], max σ.2 ((σ.1.length : Int) + 1))
  else (σ.1.take (σ.1.length - 2) ++ [mVal sym (σ.1.getD (σ.1.length - 2) 0) (σ.1.getD (σ.1.length - 1) 0)], σ.2)
noncomputable def small (i : Int) : Prop := -1048576 ≤ i ∧ i ≤ 1048576
structure RunD where
  prog : List Int
  D : List (PyData × PyData)
noncomputable def mOk (D : List (PyData × PyData)) (σ : List Int × Int) (sym : Int) : Prop :=
  σ.1.length ≤ 100 ∧ ((256 ≤ sym ∧ ∃ wd, PySem.Spec.lookup (PyData.int sym) D = some (PyData.str wd) ∧ WordOk wd (sym - 255)) ∨
  (0 < sym ∧ sym < 256 ∧ ∃ us a b, σ.1 = us ++ [a, b] ∧ small a ∧ small b ∧ (mVal sym a b).natAbs < 16 ^ 6))
noncomputable def RunD.Ok (d : RunD) : Prop := d.prog.length ≤ 100 ∧ (∀ pre sym post, d.prog = pre ++ sym :: post → mOk d.D (pre.foldl mStep ([], 0)) sym) ∧ ∃ v, (d.prog.foldl mStep ([], 0)).1 = [v]
inductive RunArg (w : World) (news : List (Addr × Obj)) : List Value → RunD → Prop where
  | mk {pl wl : Addr} {pvs : List Value} {n1 : Nat} {ow : Obj} {kvs : List (Int × Value)} {d : RunD} : (pl, listOf pvs.toArray n1) ∈ news → IntsAre pvs (d.prog ++ [0]) → (wl, ow) ∈ news → (wl == sysModules) = false →
     ow.IsDictOf (PySem.intKind PySem.Challenge.rw_xn0010_01.row.prog w) kvs → PyProof.V.FlatPairs PyData.int kvs d.D → RunArg w news [.ref pl, .ref wl] d
inductive RunOut (news : List (Addr × Obj)) : Value → RunD → Prop where
  | mk {a : Addr} {d : RunD} {t1 t2 t3 : Tok} {v : Int} {n : Nat} : (d.prog.foldl mStep ([], 0)).1 = [v] → (a, ({ cls := .type "tuple", data := .seq #[.int (d.prog.foldl mStep ([], 0)).2 t1, .int v t2, .int 0 t3] n } : Obj)) ∈ news → RunOut news (.ref a) d
noncomputable abbrev runT (w : World) : ToldN RunD where
  Rel := RunArg w
  Ok := RunD.Ok
  size := fun _ => 4
  Tl := ktnAny
  Out := RunOut
/-- the pile's tuples -/
inductive PileIs (tl : List (Addr × Obj)) : List Value → List Int → Prop where
  | nil : PileIs tl [] []
  | snoc {vs : List Value} {xs : List Int} {q : Addr} {sg wd : Str} {t1 t2 : Tok} {x : Int} : PileIs tl vs xs → (q, tupO [.str sg t1, .str wd t2] 0) ∈ tl → (wd.length ≤ 8 ∧ ∀ c ∈ wd.cps.toList, 65 ≤ c ∧ c ≤ 80) → (Piece.worth ⟨sg, wd⟩ = x) → PileIs tl (vs ++ [.ref q]) (xs ++ [x])
theorem PileIs.mono {tl tl' : List (Addr × Obj)} {vs : List Value} {xs : List Int} (h : PileIs tl vs xs) (hs : ∀ p ∈ tl, p ∈ tl') : PileIs tl' vs xs := by
  induction h with
  | nil => exact .nil
  | snoc _ hm ho hw ih => exact .snoc ih (hs _ hm) ho hw
theorem PileIs.length {tl : List (Addr × Obj)} {vs : List Value} {xs : List Int} (h : PileIs tl vs xs) : vs.length = xs.length := by
  induction h with
  | nil => rfl
  | snoc _ _ _ _ ih => simp [ih]
theorem line_E15_1 : True := by
  k_with "own_k_sub" => (simp only [List.mem_append, List.mem_cons] at *; grind)
  trivial
theorem line_E15_2 : True := by
  k_with "own_k_accm" => (first
    | (refine acc_m (by k_asm) (by k_asm) (by k_asm) (by k_mem) (by k_mem) (acc_find_pc _) (ty_139 _) (.inl rfl) (by first | exact shadow_no (by decide +kernel) | assumption) ?_)
    | (refine acc_m (by k_asm) (by k_asm) (by k_asm) (by k_mem) (by k_mem) (acc_find_push _) (ty_86 _) (.inl rfl) (by first | exact shadow_no (by decide +kernel) | assumption) ?_)
    | (refine acc_m (by k_asm) (by k_asm) (by k_asm) (by k_mem) (by k_mem) (acc_find_pf _) (ty_94 _) (.inl rfl) (by first | exact shadow_no (by decide +kernel) | assumption) ?_)
    | (refine acc_m (by k_asm) (by k_asm) (by k_asm) (by k_mem) (by k_mem) (acc_find_pop _) (ty_102 _) (.inl rfl) (by first | exact shadow_no (by decide +kernel) | assumption) ?_)
    | (refine acc_m (by k_asm) (by k_asm) (by k_asm) (by k_mem) (by k_mem) (acc_append _) (append_type _) (.inr rfl) (by first | exact shadow_no (by decide +kernel) | assumption) ?_))
  trivial
theorem kst_is {m₁ : Str → Option Value} {ps : List (Str × Value)} (h : ∀ p ∈ ps, m₁ p.1 = some p.2) : m₁ = kstB m₁ ps := funext fun _ => (kstB_eq h fun _ => rfl).symm
theorem four_in {m : Str → Option Value} {a b c d : Str} {va vb vc vd : Value} (h1 : m a = some va) (h2 : m b = some vb) (h3 : m c = some vc) (h4 : m d = some vd) : ∀ p ∈ [(a, va), (b, vb), (c, vc), (d, vd)], m p.1 = some p.2 := fun p hp => by
  rcases List.mem_cons.mp hp with rfl | hp
  · exact h1
  rcases List.mem_cons.mp hp with rfl | hp
  · exact h2
  rcases List.mem_cons.mp hp with rfl | hp
  · exact h3
  exact one_in h4 p hp
noncomputable def RunJ (d : RunD) (x dx pl wl : Addr) (od : Obj) (news : List (Addr × Obj)) (i : Nat) (m' : Str → Option Value) (nx : List (Addr × Obj)) : Prop :=
  ∃ vs2 xs2 hi th n9 tl, nx = tl ++ (x, accO dx vs2 n9) :: (dx, od) :: news ∧ PileIs tl vs2 xs2 ∧ (∀ p ∈ tl, p.1 ≠ x ∧ p.2.cls = .type "tuple") ∧ (xs2, hi) = (d.prog.take i).foldl mStep ([], 0) ∧ i ≤ d.prog.length ∧ m' "pile" = some (.ref x) ∧ m' "highest" = some (.int hi th) ∧ m' "program" = some (.ref pl) ∧ m' "words" = some (.ref wl)
theorem runJ_end {d : RunD} {x dx pl wl q : Addr} {od : Obj} {news own tl : List (Addr × Obj)} {i n : Nat} {m' : Str → Option Value} {g hh : Heap} {L : Addr} {s₁ : Shared} {tk : Nat} {sg wd : Str} {t1 t2 th : Tok} {us : List Int} {vs : List Value} {hi v : Int} {Q : Flow → Shared → Prop}
    (F : Fr g L hh m') (N : News g L hh ((q, tupO [.str sg t1, .str wd t2] 0) :: (tl ++ (x, accO dx (vs ++ [.ref q]) n) :: (dx, od) :: (news ++ own)))) (hp : PileIs tl vs us) (ht : ∀ p ∈ tl, p.1 ≠ x ∧ p.2.cls = .type "tuple")
    (ho : wd.length ≤ 8 ∧ ∀ c ∈ wd.cps.toList, 65 ≤ c ∧ c ≤ 80) (hw : Piece.worth ⟨sg, wd⟩ = v) (hst : (us ++ [v], hi) = (d.prog.take (i + 1)).foldl mStep ([], 0)) (hlt : i < d.prog.length) (hq : q ≠ x)
    (h1 : m' "pile" = some (.ref x)) (h2 : m' "highest" = some (.int hi th)) (h3 : m' "program" = some (.ref pl)) (h4 : m' "words" = some (.ref wl)) : AnyPost g L (RunJ d x dx pl wl od news (i + 1)) own s₁ Q .next { s₁ with heap := hh, toks := tk } :=
  ⟨hh, tk, m', ((q, tupO [.str sg t1, .str wd t2] 0) :: tl) ++ (x, accO dx (vs ++ [.ref q]) n) :: (dx, od) :: news, rfl, F, (fun p hp => N p (by simp only [List.mem_append, List.mem_cons] at hp ⊢; grind)), vs ++ [.ref q], us ++ [v], hi, th, n, (q, tupO [.str sg t1, .str wd t2] 0) :: tl, rfl,
    .snoc (hp.mono fun p hp => .tail _ hp) (.head _) ho hw, (fun p hp => by rcases List.mem_cons.mp hp with rfl | hp; exact ⟨hq, rfl⟩; exact ht p hp), hst, hlt, h1, h2, h3, h4⟩
theorem PileIs.last {tl : List (Addr × Obj)} {vs : List Value} {xs : List Int} {b : Int} (h : PileIs tl vs (xs ++ [b])) : ∃ vs' q sg wd t1 t2, vs = vs' ++ [.ref q] ∧ PileIs tl vs' xs ∧ (q, tupO [.str sg t1, .str wd t2] 0) ∈ tl ∧ (wd.length ≤ 8 ∧ ∀ c ∈ wd.cps.toList, 65 ≤ c ∧ c ≤ 80) ∧ Piece.worth ⟨sg, wd⟩ = b := by
  generalize e : xs ++ [b] = ys at h
  cases h with
  | nil => simp at e
  | snoc h1 h2 h3 h4 =>
    obtain ⟨rfl, e2⟩ := List.append_inj' e rfl
    cases e2
    exact ⟨_, _, _, _, _, _, rfl, h1, h2, h3, h4⟩
theorem PileIs.two {tl : List (Addr × Obj)} {vs : List Value} {us : List Int} {a b : Int} (h : PileIs tl vs (us ++ [a, b])) : ∃ vs' qa qb sga wda sgb wdb ta1 ta2 tb1 tb2, vs = vs' ++ [.ref qa, .ref qb] ∧ PileIs tl vs' us ∧
    (qa, tupO [.str sga ta1, .str wda ta2] 0) ∈ tl ∧ (wda.length ≤ 8 ∧ ∀ c ∈ wda.cps.toList, 65 ≤ c ∧ c ≤ 80) ∧ Piece.worth ⟨sga, wda⟩ = a ∧
    (qb, tupO [.str sgb tb1, .str wdb tb2] 0) ∈ tl ∧ (wdb.length ≤ 8 ∧ ∀ c ∈ wdb.cps.toList, 65 ≤ c ∧ c ≤ 80) ∧ Piece.worth ⟨sgb, wdb⟩ = b := by
  rw [show us ++ [a, b] = (us ++ [a]) ++ [b] by simp] at h
  obtain ⟨v1, qb, sgb, wdb, tb1, tb2, rfl, h1, hb1, hb2, hb3⟩ := h.last
  obtain ⟨v2, qa, sga, wda, ta1, ta2, rfl, h2, ha1, ha2, ha3⟩ := h1.last
  exact ⟨v2, qa, qb, sga, wda, sgb, wdb, ta1, ta2, tb1, tb2, by simp, h2, ha1, ha2, ha3, hb1, hb2, hb3⟩
theorem apL_codes : ∀ (k n : Nat), n < 16 ^ k → ∀ c ∈ apL n, 65 ≤ c.toNat ∧ c.toNat ≤ 80
  | 0, n, h, c, hc => by have : n = 0 := by simpa using h
                         subst this; rw [apL_zero] at hc; cases hc
  | k + 1, n, h, c, hc => by
    by_cases h0 : n = 0
    · subst h0; rw [apL_zero] at hc; cases hc
    · rw [apL_pos h0] at hc
      rcases List.mem_append.mp hc with hc | hc
      · exact apL_codes k (n / 16) (by rw [Nat.pow_succ] at h; omega) c hc
      · rw [List.mem_singleton.mp hc]
        have : (65 + n % 16).toUInt8.toNat = 65 + n % 16 := by simp [Nat.toUInt8, UInt8.toNat_ofNat']; omega
        omega
theorem wnum_apL : ∀ (k n : Nat), n < 16 ^ k → wnum ((apL n).map (·.toNat)) = (n : Int)
  | 0, n, h => by have : n = 0 := by simpa using h
                  subst this; rw [apL_zero]; rfl
  | k + 1, n, h => by
    by_cases h0 : n = 0
    · subst h0; rw [apL_zero]; rfl
    · rw [apL_pos h0]
      have ih := wnum_apL k (n / 16) (by rw [Nat.pow_succ] at h; omega)
      unfold wnum at ih ⊢
      rw [List.map_append, List.foldl_append, ih]
      have : (65 + n % 16).toUInt8.toNat = 65 + n % 16 := by simp [Nat.toUInt8, UInt8.toNat_ofNat']; omega
      simp only [List.map_cons, List.map_nil, List.foldl_cons, List.foldl_nil, this]
      omega
theorem bText_ok {n : Nat} (h : n < 16 ^ 6) : (bText (apL n)).length ≤ 8 ∧ ∀ c ∈ (bText (apL n)).cps.toList, 65 ≤ c ∧ c ≤ 80 := by
  refine ⟨?_, fun c hc => ?_⟩
  · have := apL_len 6 n h
    unfold bText PySem.Str.length
    simp
    omega
  · unfold bText at hc
    simp only [List.mem_map] at hc
    obtain ⟨d, hd, rfl⟩ := hc
    exact apL_codes 6 n h d hd
theorem bText_num {n : Nat} (h : n < 16 ^ 6) : wnum (bText (apL n)).cps.toList = (n : Int) := wnum_apL 6 n h
theorem worth_neg {v u : Int} (h : v.natAbs < 16 ^ 6) (hv : v < 0) (e : v = u) : Piece.worth ⟨Str.ofString "-", bText (apL v.natAbs)⟩ = u := by
  unfold Piece.worth
  rw [if_pos rfl, bText_num h]; omega
theorem worth_pos {v u : Int} (h : v.natAbs < 16 ^ 6) (hv : 0 ≤ v) (e : v = u) : Piece.worth ⟨Str.ofString " ", bText (apL v.natAbs)⟩ = u := by
  unfold Piece.worth
  rw [if_neg (show ¬ (Str.ofString " " = Str.ofString "-") by decide), bText_num h]; omega
theorem mStep_op {us : List Int} {a b hi sym : Int} (h : sym < 256) : mStep (us ++ [a, b], hi) sym = (us ++ [mVal sym a b], hi) := by
  unfold mStep
  rw [if_neg (by omega)]
  simp [List.getD_eq_getElem?_getD]
theorem news_drop2 {g h : Heap} {L : Addr} {a b : Addr × Obj} {l : List (Addr × Obj)} (N : News g L h (a :: b :: l)) : News g L h l := fun p hp => N p (.tail _ (.tail _ hp))
theorem run_fin {g h : Heap} {L : Addr} {T a b : Addr × Obj} {tl news own : List (Addr × Obj)} (N : News g L h (T :: (tl ++ a :: b :: (news ++ own)))) : News g L h (news ++ [T]) := fun p hp => N p (by
  rcases List.mem_append.mp hp with hp | hp
  · exact .tail _ (List.mem_append.mpr (.inr (.tail _ (.tail _ (List.mem_append.mpr (.inl hp))))))
  · rw [List.mem_singleton.mp hp]; exact .head _)
theorem RunOut.of {news : List (Addr × Obj)} {a : Addr} {d : RunD} {t1 t2 t3 : Tok} {x1 x2 x3 v : Int} {n : Nat} (h : (a, ({ cls := .type "tuple", data := .seq #[.int x1 t1, .int x2 t2, .int x3 t3] n } : Obj)) ∈ news) (hv : (d.prog.foldl mStep ([], 0)).1 = [v]) (e1 : x1 = (d.prog.foldl mStep ([], 0)).2) (e2 : x2 = v) (e3 : x3 = 0) : RunOut news (.ref a) d := by
  subst e1; subst e2; subst e3; exact .mk hv h
theorem run_ct (w : World) (mean : ExcName → Option Value) (mg mb : Str → Option Value) : ∀ d, TellsN PySem.Challenge.rw_xn0010_01.row.prog w (hd.heap_1_39 w.params) hd.view_1_40 LS mean mg mb 214 (runT w) d := by
  w_on
  k_fill
  intro d
  have WC := worth_ct w mean mg mb
  have JC := joined_ct w mean mg mb
  have AC := ap_ct w mean mg mb
  unfold TellsN
  intro dp un gd cn cs a ccd cl outer A₀ base h₀ L m news s vs Q E B F X N T hk hR hok hd hu hret
  obtain @⟨pl, wl, pvs, n1, ow, kvs, d, hpl, hpi, hwl, hsm, hdo, hfp⟩ := hR
  dsimp only [runT] at hd hu
  have r1 : dp + 1 + 3 < recursionLimit := by omega
  have u1 : un + 3 + 24 < cLine := by omega
  refine wpAny_call ?_
  k_dflt ktr_enter
  refine wp_never ?_
  k_with "call ref" => ((with_reducible show wpAny _ _ (call (Value.ref 142) _) _ _ _); k_dflt (refine make_call w mean mg mb (by k_asm) (by k_asm) (by k_asm) (by k_asm) (by k_asm) (by first | exact rfl | assumption) r1 u1 (fun h1 k1 x dx hs0 tk0 n2 v0 n0 F1 N1 l1 l2 => ?_)); (try dsimp only))
  k_steps
  rename Fr _ _ _ _ => F0
  (with_unfolding_all refine' For_invVF F0 ?k1 ?k2 ?_; (case k1 => exact rfl); (case k2 => exact rfl); k_whole)
  k_steps
  rename News _ _ _ ((x, _) :: _) => N0
  have xs1 : ∀ p ∈ news, p.1 ≠ x := fun p hp => Nat.ne_of_lt (Nat.lt_trans (l1 p hp) l2)
  have hdx0 : dx ≠ x := Nat.ne_of_lt l2
  refine iter_any (vs := pvs) (nn := n1) (RunJ d x dx pl wl (dictOf [⟨hs0, .str "_initial_size" tk0, v0⟩] n2) news) rfl (.tail _ (.tail _ hpl)) F0 N0 ?_ ?_ ?_ ?_
  · exact ⟨[], [], 0, _, _, [], rfl, .nil, (fun _ h => nomatch h), rfl, Nat.zero_le _, rfl, rfl, rfl, rfl⟩
  · rintro i m' nx ⟨vs2, xs2, hi, th, n9, tl, rfl, -, ht, -⟩
    refine ⟨List.mem_append.mpr (.inr (.tail _ (.tail _ hpl))), fun p hp => ?_⟩
    rcases List.mem_append.mp hp with hp | hp
    · exact .inr (by rw [(ht p hp).2]; decide)
    · left
      simp only [List.map_cons, List.mem_cons] at hp ⊢
      rcases hp with rfl | rfl | hp
      · exact .inl rfl
      · exact .inr (.inl rfl)
      · exact .inr (.inr (List.mem_map_of_mem hp))
  · rintro i v9 m1 nx h tk9 own hv hcls hsep ⟨vs2, xs2, hi, th, n9, tl, rfl, hp, ht, hst, hile, hm1, hm2, hm3, hm4⟩ F1 N1 P9 hP9
    rw [kst_is (four_in hm1 hm2 hm3 hm4)] at F1
    have ow1 : ∀ p ∈ own, p.1 ≠ x := fun p hp => hsep p hp (x, _) (.head _)
    have N2 := N1
    (try simp only [List.append_assoc, List.cons_append] at N2)
    by_cases hlt : i < d.prog.length
    · obtain ⟨t9, hx9⟩ := hpi.get i d.prog[i] (by rw [List.getElem?_append_left hlt]; simp [hlt])
      have hv9 : v9 = .int d.prog[i] t9 := by rw [hv] at hx9; exact Option.some.inj hx9
      subst hv9
      have hsym : d.prog = d.prog.take i ++ d.prog[i] :: d.prog.drop (i + 1) := by rw [List.getElem_cons_drop, List.take_append_drop]
      have hm := hok.2.1 _ _ _ hsym
      have hnx : (d.prog.take (i + 1)).foldl mStep ([], 0) = mStep (xs2, hi) d.prog[i] := by rw [List.take_add_one, List.getElem?_eq_getElem hlt, List.foldl_append, ← hst]; rfl
      rw [← hst] at hm
      generalize d.prog[i] = sym at hm hnx F1 hsym hx9
      have hpl2 := hp.length
      rcases hm with ⟨hlen, ⟨h256, wd, hlk, hwd⟩ | ⟨h0, h256, us, ea, eb, hxs, sa, sb, hbig⟩⟩
      · dsimp only at hlen
        have q1 : dp + 1 < recursionLimit := by omega
        k_with "getMethod ref" => (k_dflt (k_extra "own_k_accm"))
        have q2 : dp + 1 + 2 < recursionLimit := by omega
        have q3 : un + 3 + 16 < cLine := by omega
        have off2 : ∀ p ∈ (dx, dictOf [⟨hs0, .str "_initial_size" tk0, v0⟩] n2) :: (news ++ own), p.1 ≠ x := by
          intro p hp
          rcases List.mem_cons.mp hp with rfl | hp
          · exact hdx0
          · rcases List.mem_append.mp hp with hp | hp
            · exact xs1 p hp
            · exact ow1 p hp
        k_with "call ref" => ((with_reducible show wpAny _ _ (call (Value.ref 55) _) _ _ _); refine wpAny_call ?_; k_dflt (refine' code_def ?k1 ?k2 ?k3 ?k4 ?k5 ?kA ?kF ?kK ?k6 ?k7 ?k8 ?k9 ?kB ?_ ?c2 ?c3 ?c4 ?c5; (case kA => exact rfl); (case kF => exact rfl); (case kK => first | exact rfl | assumption); (case k1 => k_asm); (case k2 => k_asm); (case k3 => k_asm); (case k4 => k_asm); (case k5 => k_asm); (case k6 => k_is); (case k7 => k_is); (case k8 => exact q1); (case k9 => exact BindsTo.of_eq rfl); (case c5 => decide); (case kB => exact locs rfl); (case c2 => exact rfl); (case c3 => exact rfl); (case c4 => exact rfl); k_whole; intro g' L' h' FG' F' N' B' X' T'; (try dsimp only); (try k_fold)))
        k_with "call ref" => ((with_reducible show wpAny _ _ (call (Value.ref 86) _) _ _ _); k_dflt (refine push_call w mean mg mb (pre := tl) (post := (dx, dictOf [⟨hs0, .str "_initial_size" tk0, v0⟩] n2) :: (news ++ own)) (by k_asm) (by k_asm) (by k_asm) (by k_asm) (by k_asm) (by first | exact rfl | assumption) q2 q3 (List.mem_append.mpr (.inr (.head _))) (shadow_no (by decide +kernel)) (by omega) (fun p hp => (ht p hp).1) off2 (fun h3 k3 q F3 N3 l3 => ?_)); (try dsimp only))
        k_with "call ref" => ((with_reducible show wpAny _ _ (call (Value.ref 139) _) _ _ _); k_dflt (refine pc_call w mean mg mb (by k_asm) (by k_asm) (by k_asm) (by k_asm) (by k_asm) (by first | exact rfl | assumption) q2 q3 (by k_mem) (by k_mem) (fun t4 h4 k4 F4 N4 => ?_)); (try dsimp only))
        k_steps
        refine hP9 _ _ ?_
        refine runJ_end (by k_asm) (by k_asm) hp ht ⟨hwd.1, hwd.2.1⟩ (v := sym - 255) ?_ ?_ hlt ?_ (by exact rfl) (by exact rfl) (by exact rfl) (by exact rfl)
        · unfold Piece.worth; rw [if_neg (show ¬ (Str.ofString " " = Str.ofString "-") by decide)]; exact hwd.2.2
        · rw [hnx]; simp only [mStep, h256, if_true, List.length_append, List.length_singleton, hpl2]; congr 1; split <;> omega
        · exact ne_of_all l3 (List.mem_append.mpr (.inr (.head _)))
      · dsimp only at hlen hxs
        subst hxs
        obtain ⟨vs', qa, qb, sga, wda, sgb, wdb, ta1, ta2, tb1, tb2, rfl, hp', ha1, ha2, ha3, hb1, hb2, hb3⟩ := hp.two
        have hp'l := hp'.length
        have q1 : dp + 1 < recursionLimit := by omega
        have q2 : dp + 1 + 2 < recursionLimit := by omega
        have q3 : un + 3 + 16 < cLine := by omega
        have off2 : ∀ p ∈ (dx, dictOf [⟨hs0, .str "_initial_size" tk0, v0⟩] n2) :: (news ++ own), p.1 ≠ x := by
          intro p hp
          rcases List.mem_cons.mp hp with rfl | hp
          · exact hdx0
          · rcases List.mem_append.mp hp with hp | hp
            · exact xs1 p hp
            · exact ow1 p hp
        k_with "getMethod ref" => (k_dflt (k_extra "own_k_accm"))
        k_with "call ref" => ((with_reducible show wpAny _ _ (call (Value.ref 55) _) _ _ _); refine wpAny_call ?_; k_dflt (refine' code_def ?k1 ?k2 ?k3 ?k4 ?k5 ?kA ?kF ?kK ?k6 ?k7 ?k8 ?k9 ?kB ?_ ?c2 ?c3 ?c4 ?c5; (case kA => exact rfl); (case kF => exact rfl); (case kK => first | exact rfl | assumption); (case k1 => k_asm); (case k2 => k_asm); (case k3 => k_asm); (case k4 => k_asm); (case k5 => k_asm); (case k6 => k_is); (case k7 => k_is); (case k8 => exact q1); (case k9 => exact BindsTo.of_eq rfl); (case c5 => decide); (case kB => exact locs rfl); (case c2 => exact rfl); (case c3 => exact rfl); (case c4 => exact rfl); k_whole; intro g' L' h' FG' F' N' B' X' T'; (try dsimp only); (try k_fold)))
        k_with "call ref" => ((with_reducible show wpAny _ _ (call (Value.ref 62) _) _ _ _); refine wpAny_call ?_; k_dflt (refine' code_def ?k1 ?k2 ?k3 ?k4 ?k5 ?kA ?kF ?kK ?k6 ?k7 ?k8 ?k9 ?kB ?_ ?c2 ?c3 ?c4 ?c5; (case kA => exact rfl); (case kF => exact rfl); (case kK => first | exact rfl | assumption); (case k1 => k_asm); (case k2 => k_asm); (case k3 => k_asm); (case k4 => k_asm); (case k5 => k_asm); (case k6 => k_is); (case k7 => k_is); (case k8 => exact q1); (case k9 => exact BindsTo.of_eq rfl); (case c5 => decide); (case kB => exact locs rfl); (case c2 => exact rfl); (case c3 => exact rfl); (case c4 => exact rfl); k_whole; intro g' L' h' FG' F' N' B' X' T'; (try dsimp only); (try k_fold)))
        k_with "call ref" => ((with_reducible show wpAny _ _ (call (Value.ref 139) _) _ _ _); k_dflt (refine pc_call w mean mg mb (by k_asm) (by k_asm) (by k_asm) (by k_asm) (by k_asm) (by first | exact rfl | assumption) q2 q3 (by k_mem) (by k_mem) (fun t4 h4 k4 F4 N4 => ?_)); (try dsimp only))
        have q4 : dp + 1 + 3 < recursionLimit := r1
        have q5 : un + 3 + 24 < cLine := u1
        k_with "call ref" => ((with_reducible show wpAny _ _ (call (Value.ref 94) _) _ _ _); k_dflt (refine pf_call2 w mean mg mb (us := vs') (ts := [.ref qa, .ref qb]) (pre := tl) (post := (dx, dictOf [⟨hs0, .str "_initial_size" tk0, v0⟩] n2) :: (news ++ own)) (by k_asm) (by k_asm) (by k_asm) (by k_asm) (by k_asm) (by first | exact rfl | assumption) q4 q5 (List.mem_append.mpr (.inr (.head _))) (by simp only [List.length_append, List.length_cons, List.length_nil] at hlen ⊢; omega) (by simp only [List.length_append, List.length_cons, List.length_nil]; omega) (fun p hp => (ht p hp).1) off2 (fun h5 k5 q n5 F5 N5 l5 => ?_)); (try dsimp only))
        have ha1' : (qa, ({ cls := .type "tuple", data := .seq #[.str sga ta1, .str wda ta2] 0 } : Obj)) ∈ tl := ha1
        have hb1' : (qb, ({ cls := .type "tuple", data := .seq #[.str sgb tb1, .str wdb tb2] 0 } : Obj)) ∈ tl := hb1
        k_with "CompEnd" => (k_dflt (refine LCg.CompEnd.intro (by k_asm) (by k_asm) _ (fun p hp => hp) (by first | assumption | (with_unfolding_all assumption)) (by lcg_src) ?_))
        have q6 : dp + 1 + 1 < recursionLimit := by omega
        have q7 : un + 3 + 8 * 1 < cLine := by omega
        k_with "call ref" => ((with_reducible show wpAny _ _ (call (Value.ref 178) _) _ _ _); k_dflt (refine tellsN_use (c := worthT) (by k_asm) (by k_asm) (by k_asm) (by k_asm) (by k_asm) (by first | exact rfl | assumption) (by first | (exact .mk (by k_mem)) | fail "rel") (WC _) (by first | (first | exact ha2 | exact hb2) | fail "ok") (by exact q6) (by exact q7) ?_); intro r9 tl9 h9 tk9 F9 N9 hl9 ht9 ho9; (try dsimp only); obtain ⟨t9', e9'⟩ := ho9; subst e9'; subst ht9; (try simp only [List.append_nil] at N9))
        have sa' : -1048576 ≤ Piece.worth ⟨sga, wda⟩ ∧ Piece.worth ⟨sga, wda⟩ ≤ 1048576 := by rw [ha3]; exact sa
        have sb' : -1048576 ≤ Piece.worth ⟨sgb, wdb⟩ ∧ Piece.worth ⟨sgb, wdb⟩ ≤ 1048576 := by rw [hb3]; exact sb
        have hv1 : 239 < sym → (joined (sym - 239) (Piece.worth ⟨sgb, wdb⟩) (Piece.worth ⟨sga, wda⟩)).natAbs < 16 ^ 6 := fun h => by rw [ha3, hb3]; unfold mVal at hbig; rw [if_pos h] at hbig; exact hbig
        have hv2 : ¬ 239 < sym → (joined sym (Piece.worth ⟨sga, wda⟩) (Piece.worth ⟨sgb, wdb⟩)).natAbs < 16 ^ 6 := fun h => by rw [ha3, hb3]; unfold mVal at hbig; rw [if_neg h] at hbig; exact hbig
        k_with "call ref" => ((with_reducible show wpAny _ _ (call (Value.ref 197) _) _ _ _); k_dflt (refine tellsN_use (c := joinedT) (by k_asm) (by k_asm) (by k_asm) (by k_asm) (by k_asm) (by first | exact rfl | assumption) (by first | (exact .mk) | fail "rel") (JC _) (by first | (first | exact ⟨sb'.1, sb'.2, sa'.1, sa'.2⟩ | exact ⟨sa'.1, sa'.2, sb'.1, sb'.2⟩) | fail "ok") (by exact q6) (by exact q7) ?_); intro r9 tl9 h9 tk9 F9 N9 hl9 ht9 ho9; (try dsimp only); obtain ⟨t9', e9'⟩ := ho9; subst e9'; subst ht9; (try simp only [List.append_nil] at N9))
        k_with "call builtin:bytes.decode" => (k_dflt (refine decode2 (l := apL (Int.natAbs _)) (fun c hc => Nat.lt_of_le_of_lt (apL_codes 6 _ (by first | exact hv1 (by omega) | exact hv2 (by omega)) c hc).2 (by decide)) (Nat.le_trans (apL_len 6 _ (by first | exact hv1 (by omega) | exact hv2 (by omega))) (by decide)) ?_; intro t7 k7))
        k_with "call ref" => ((with_reducible show wpAny _ _ (call (Value.ref 86) _) _ _ _); k_dflt (refine push_call w mean mg mb (vs := vs') (pre := tl) (post := (dx, dictOf [⟨hs0, .str "_initial_size" tk0, v0⟩] n2) :: (news ++ own)) (by k_asm) (by k_asm) (by k_asm) (news_drop2 (by k_asm)) (by k_asm) (by first | exact rfl | assumption) q2 q3 (List.mem_append.mpr (.inr (.head _))) (shadow_no (by decide +kernel)) (by simp only [List.length_append, List.length_cons, List.length_nil] at hlen; omega) (fun p hp => (ht p hp).1) off2 (fun h3 k3 q3' F3 N3 l3 => ?_)); (try dsimp only))
        k_with "call ref" => ((with_reducible show wpAny _ _ (call (Value.ref 166) _) _ _ _); k_dflt (refine tellsN_use (c := apT) (by k_asm) (by k_asm) (by k_asm) (by k_asm) (by k_asm) (by first | exact rfl | assumption) (by first | (exact .mk) | fail "rel") (AC _) (by first | (first | exact hv1 (by omega) | exact hv2 (by omega)) | fail "ok") (by exact q6) (by exact q7) ?_); intro r9 tl9 h9 tk9 F9 N9 hl9 ht9 ho9; (try dsimp only); obtain ⟨t9', e9'⟩ := ho9; subst e9'; subst ht9; (try simp only [List.append_nil] at N9))
        have me1 : 239 < sym → joined (sym - 239) (Piece.worth ⟨sgb, wdb⟩) (Piece.worth ⟨sga, wda⟩) = mVal sym ea eb := fun h => by unfold mVal; rw [if_pos h, ha3, hb3]
        have me2 : ¬ 239 < sym → joined sym (Piece.worth ⟨sga, wda⟩) (Piece.worth ⟨sgb, wdb⟩) = mVal sym ea eb := fun h => by unfold mVal; rw [if_neg h, ha3, hb3]
        have hst' : (us ++ [mVal sym ea eb], hi) = (d.prog.take (i + 1)).foldl mStep ([], 0) := by rw [hnx]; exact (mStep_op h256).symm
        k_steps
        · exact absurd (by assumption : sym = 0) (by omega)
        all_goals (refine hP9 _ _ ?_; refine runJ_end (us := us) (vs := vs') (v := mVal sym ea eb) (by k_asm) (by k_asm) hp' ht (bText_ok (by first | exact hv1 (by omega) | exact hv2 (by omega))) ?_ hst' hlt (ne_of_all l3 (List.mem_append.mpr (.inr (.head _)))) (by exact rfl) (by exact rfl) (by exact rfl) (by exact rfl))
        all_goals first
          | exact worth_neg (hv1 (by omega)) (by assumption) (me1 (by omega))
          | exact worth_neg (hv2 (by omega)) (by assumption) (me2 (by omega))
          | exact worth_pos (hv1 (by omega)) (Int.not_lt.mp (by assumption)) (me1 (by omega))
          | exact worth_pos (hv2 (by omega)) (Int.not_lt.mp (by assumption)) (me2 (by omega))
          | exact worth_pos (hv1 (by omega)) (by assumption) (me1 (by omega))
          | exact worth_pos (hv2 (by omega)) (by assumption) (me2 (by omega))
    · have e : i = d.prog.length := Nat.le_antisymm hile (Nat.le_of_not_lt hlt)
      obtain ⟨t9, hx9⟩ := hpi.get i 0 (by rw [e, List.getElem?_append_right (Nat.le_refl _), Nat.sub_self]; rfl)
      have hv9 : v9 = .int 0 t9 := by rw [hv] at hx9; exact Option.some.inj hx9
      subst hv9
      obtain ⟨vf, hvf⟩ := hok.2.2
      have hst2 : (xs2, hi) = d.prog.foldl mStep ([], 0) := by rw [hst, e, List.take_length]
      have hxs : xs2 = [vf] := by rw [← hst2] at hvf; exact hvf
      subst hxs
      obtain ⟨vs', qa, sga, wda, ta1, ta2, rfl, hp', ha1, ha2, ha3⟩ := PileIs.last (xs := []) hp
      have hvs' : vs' = [] := List.eq_nil_of_length_eq_zero (by rw [hp'.length]; rfl)
      subst hvs'
      have q1 : dp + 1 < recursionLimit := by omega
      have q2 : dp + 1 + 2 < recursionLimit := by omega
      have q3 : un + 3 + 16 < cLine := by omega
      have q4 : dp + 1 + 3 < recursionLimit := r1
      have q5 : un + 3 + 24 < cLine := u1
      have q6 : dp + 1 + 1 < recursionLimit := by omega
      have q7 : un + 3 + 8 * 1 < cLine := by omega
      have ha1' : (qa, ({ cls := .type "tuple", data := .seq #[.str sga ta1, .str wda ta2] 0 } : Obj)) ∈ tl := ha1
      have off2 : ∀ p ∈ (dx, dictOf [⟨hs0, .str "_initial_size" tk0, v0⟩] n2) :: (news ++ own), p.1 ≠ x := by
        intro p hp
        rcases List.mem_cons.mp hp with rfl | hp
        · exact hdx0
        · rcases List.mem_append.mp hp with hp | hp
          · exact xs1 p hp
          · exact ow1 p hp
      k_with "getMethod ref" => (k_dflt (k_extra "own_k_accm"))
      k_with "call ref" => ((with_reducible show wpAny _ _ (call (Value.ref 55) _) _ _ _); refine wpAny_call ?_; k_dflt (refine' code_def ?k1 ?k2 ?k3 ?k4 ?k5 ?kA ?kF ?kK ?k6 ?k7 ?k8 ?k9 ?kB ?_ ?c2 ?c3 ?c4 ?c5; (case kA => exact rfl); (case kF => exact rfl); (case kK => first | exact rfl | assumption); (case k1 => k_asm); (case k2 => k_asm); (case k3 => k_asm); (case k4 => k_asm); (case k5 => k_asm); (case k6 => k_is); (case k7 => k_is); (case k8 => exact q1); (case k9 => exact BindsTo.of_eq rfl); (case c5 => decide); (case kB => exact locs rfl); (case c2 => exact rfl); (case c3 => exact rfl); (case c4 => exact rfl); k_whole; intro g' L' h' FG' F' N' B' X' T'; (try dsimp only); (try k_fold)))
      k_with "call ref" => ((with_reducible show wpAny _ _ (call (Value.ref 62) _) _ _ _); refine wpAny_call ?_; k_dflt (refine' code_def ?k1 ?k2 ?k3 ?k4 ?k5 ?kA ?kF ?kK ?k6 ?k7 ?k8 ?k9 ?kB ?_ ?c2 ?c3 ?c4 ?c5; (case kA => exact rfl); (case kF => exact rfl); (case kK => first | exact rfl | assumption); (case k1 => k_asm); (case k2 => k_asm); (case k3 => k_asm); (case k4 => k_asm); (case k5 => k_asm); (case k6 => k_is); (case k7 => k_is); (case k8 => exact q1); (case k9 => exact BindsTo.of_eq rfl); (case c5 => decide); (case kB => exact locs rfl); (case c2 => exact rfl); (case c3 => exact rfl); (case c4 => exact rfl); k_whole; intro g' L' h' FG' F' N' B' X' T'; (try dsimp only); (try k_fold)))
      k_with "call ref" => ((with_reducible show wpAny _ _ (call (Value.ref 139) _) _ _ _); k_dflt (refine pc_call w mean mg mb (by k_asm) (by k_asm) (by k_asm) (by k_asm) (by k_asm) (by first | exact rfl | assumption) q2 q3 (by k_mem) (by k_mem) (fun t4 h4 k4 F4 N4 => ?_)); (try dsimp only))
      k_with "call ref" => ((with_reducible show wpAny _ _ (call (Value.ref 102) _) _ _ _); k_dflt (refine pop_call w mean mg mb (vs := []) (v := .ref qa) (pre := tl) (post := (dx, dictOf [⟨hs0, .str "_initial_size" tk0, v0⟩] n2) :: (news ++ own)) (by k_asm) (by k_asm) (by k_asm) (by k_asm) (by k_asm) (by first | exact rfl | assumption) q4 q5 (List.mem_append.mpr (.inr (.head _))) (shadow_no (by decide +kernel)) (by decide) (fun p hp => (ht p hp).1) off2 (fun h5 k5 F5 N5 => ?_)); (try dsimp only))
      k_with "call ref" => ((with_reducible show wpAny _ _ (call (Value.ref 178) _) _ _ _); k_dflt (refine tellsN_use (c := worthT) (by k_asm) (by k_asm) (by k_asm) (by k_asm) (by k_asm) (by first | exact rfl | assumption) (by first | (exact .mk (by k_mem)) | fail "rel") (WC _) (by first | (exact ha2) | fail "ok") (by exact q6) (by exact q7) ?_); intro r9 tl9 h9 tk9 F9 N9 hl9 ht9 ho9; (try dsimp only); obtain ⟨t9', e9'⟩ := ho9; subst e9'; subst ht9; (try simp only [List.append_nil] at N9))
      k_steps
      refine hP9 _ _ ?_
      dsimp only [AnyPost]
      k_steps
      refine hret _ [_] _ _ (by k_asm) (run_fin (by k_asm)) ?_ trivial (RunOut.of (List.mem_append.mpr (.inr (.head _))) hvf (by rw [← hst2]) ha3 rfl)
      intro q hq p hp
      rw [List.mem_singleton.mp hp]
      exact Heap.lt_size ((by assumption : News _ _ h4 (tl ++ _ :: _ :: (news ++ own))) q (List.mem_append.mpr (.inr (.tail _ (.tail _ (List.mem_append.mpr (.inl hq))))))).1
  · rintro m1 nx h tk ⟨vs2, xs2, hi, th, n9, tl, rfl, -, ht, -, hle, -⟩
    have := hpi.length
    rw [List.length_append, List.length_singleton] at this
    omega
end

section
open PySem PySem.W PyProof.Rows PySem.Spec PySem.Calls
set_option Elab.async false
set_option maxRecDepth 100000
set_option maxHeartbeats 8000000
set_option linter.all false
theorem fresh_E17 {prog : Program} {w : World} {A : Around} {E : Value → Shared → Prop} {s : Shared} {Q : Value → Shared → Prop} (h : wpAny (model prog w) A (call (.int 0 0) []) Q E s) : wpAny (model prog w) A (call (.int 0 0) []) Q E s := by
  k_with_none
  w_top off
  first | (walk1; fail) | exact h
noncomputable abbrev patO : Obj := { cls := .type "re.Pattern", data := .fields #[.bytes #[34, 40, 63, 58, 91, 94, 34, 92, 92, 93, 124, 92, 92, 46, 41, 42, 43, 34] 612, .int 0 653, .int 0 0, .none, .none, .ref 150, .int 1 0] }
theorem pat_at (P : Params) : (hd.heap_1_39 P).lookup 151 = some patO := by kernel_rfl
noncomputable abbrev codeO : Obj := { cls := .type "tuple", data := .seq #[.int 14 654, .int 8 0, .int 1 0] 0 }
theorem pat_code (P : Params) : ((hd.heap_1_39 P).lookup 150).any (fun o => match o.data with | .seq vs _ => (Sre.header ((vs.map Builtin.Re.reRawOf).map (·.toNat))).1 == 2 | _ => false) = true := by kernel_rfl
theorem sub_eq {c : UInt8} {t0 t1 : Tok} : Builtin.«re.Pattern.sub» ⟨[.ref 151, .bytes #[] t0, .bytes #[c] t1], []⟩ = (holding [.bytes #[] t0] (Builtin.Re.reWholeTarget (.ref 151) (.bytes #[c] t1)) >>= fun _ => newList [] >>= fun l => again (.builtin "re.Pattern.sub.loop" ⟨[.ref 151, .bytes #[c] t1, .bytes #[] t0, rawInt 0, rawInt 0, rawInt 0, rawInt 0, rawInt 0, .bool false, l, .bool false], []⟩)) := by kernel_rfl
theorem bq {id : String} {b : Array UInt8} {t : Tok} : Builtin.Bytes.bufferQuiet? id (.bytes b t) = pure (some b) := by
  unfold Builtin.Bytes.bufferQuiet?
  rw [KBy.buffer_eq]
  rfl
theorem plain_sub : plainId "re.Pattern.sub" = true := by decide +kernel
theorem entry_sub : entryFor table "re.Pattern.sub" = some Builtin.«re.Pattern.sub» := entryFor_of_tree (by kernel_rfl)
theorem entry_subLoop : entryFor table "re.Pattern.sub.loop" = some Builtin.«re.Pattern.sub.loop» := entryFor_of_tree (by kernel_rfl)
theorem kind_sub : builtinKind "re.Pattern.sub" = some .method := by decide +kernel
theorem split_sub : splitId "re.Pattern.sub" = some ("re.Pattern", "sub") := by decide +kernel
theorem args_sub (a b c : Value) : argsOk "re.Pattern.sub" ⟨[a, b, c], []⟩ := by unfold argsOk; kernel_rfl
section
variable {prog : Program} {w : World} {A : Around} {E : Value → Shared → Prop} {s : Shared} {h₀ : Heap} {L : Addr} {m : Str → Option Value} {news : List (Addr × Obj)}
theorem text_eq {b : Array UInt8} {t : Tok} : Builtin.Re.reTextOf (.bytes b t) = pure (b.map (·.toNat), 1) := by
  unfold Builtin.Re.reTextOf
  rw [bq]
  rfl
theorem noColl {b : Array UInt8} {t : Tok} : Builtin.Re.reNoCollectionInside (.bytes b t) 1 = pure () := by kernel_rfl
theorem noTurn {b : Array UInt8} {t : Tok} : Builtin.Re.reLiteralCannotBeTurned (.bytes b t) = pure () := by kernel_rfl
theorem whole1 {M : Model} {c : UInt8} {t1 : Tok} {oc : Value} {od : Option Addr} {osl : Array (Option Value)} {vs : Array Value} {n : Nat} {Q : Builtin.Re.ReTarget → Shared → Prop} (hp : s.heap.get? 151 = some patO) (hc : s.heap.get? 150 = some { cls := oc, dict := od, data := .seq vs n, slots := osl })
    (h : Q { pattern := .ref 151, string := .bytes #[c] t1, code := (vs.map Builtin.Re.reRawOf).map (·.toNat), text := #[c.toNat], kind := 1, groups := 0, pos := 0, lim := 1 } s) : wpAny M A (Builtin.Re.reWholeTarget (.ref 151) (.bytes #[c] t1)) Q E s := by
  unfold Builtin.Re.reWholeTarget fieldsOf
  refine wpAny_bind (wpAny_bind (wpAny_load hp (wpAny_pure ?_)))
  rw [text_eq]
  refine wpAny_bind (wpAny_pure ?_)
  dsimp only
  have e6 : Builtin.Re.reRawNat ((#[.bytes #[34, 40, 63, 58, 91, 94, 34, 92, 92, 93, 124, 92, 92, 46, 41, 42, 43, 34] 612, .int 0 653, .int 0 0, .none, .none, .ref 150, .int 1 0] : Array Value).getD 6 .none) = 1 := rfl
  rw [e6, noColl]
  refine KFB.if_not (by decide) (KFB.if_not (by decide) (wpAny_bind (wpAny_pure ?_)))
  unfold Builtin.Re.reRawItems
  refine wpAny_bind (wpAny_bind (wpAny_seqItems hc rfl (wpAny_pure (wpAny_pure ?_))))
  have ea : (Array.map (fun x => x.toNat) #[c]) = #[c.toNat] := by simp
  rw [ea]
  exact h
theorem rules_loop {M : Model} {p : Nat → Bool} {nm : Nat → String} {Q : PUnit → Shared → Prop} : ∀ {l : List Nat} (_ : Q PUnit.unit s), wpAny M A (forIn l PUnit.unit fun i _ => if p i = true then do rule (nm i); pure (ForInStep.yield PUnit.unit) else pure (ForInStep.yield PUnit.unit)) Q E s
  | [], h => wpAny_pure h
  | i :: r, h => by
    rw [List.forIn_cons]
    refine wpAny_bind ?_
    split
    · exact wpAny_bind (wpAny_rule (wpAny_pure (rules_loop h)))
    · exact wpAny_pure (rules_loop h)
theorem run_fail {M : Model} {m0 : Sre.M} {Q : Option Sre.M → Shared → Prop} (h1 : m0.outcome = none) (h2 : m0.frames = []) (h : Q none s) : wpAny M A (Builtin.Re.reRunToEnd (m0.say false)) Q E s := by
  have e4 : (m0.say false).runFor Builtin.Re.reTurnSteps = { m0.say false with outcome := some .failed } := by
    obtain ⟨⟩ := m0
    dsimp only at h1 h2
    subst h1 h2
    rfl
  unfold Builtin.Re.reRunToEnd
  rw [show (2 ^ 64 : Nat) = 18446744073709551615 + 1 from rfl, Builtin.Re.reDrive]
  rw [e4]
  dsimp only [Option.isSome]
  rw [if_pos rfl]
  refine wpAny_bind (wpAny_pure ?_)
  refine wpAny_bind (rules_loop (p := fun i => (m0.say false).seen.has i) (nm := fun i => Sre.names.getD i "") ?_)
  exact wpAny_pure h
theorem next1 {M : Model} {t : Builtin.Re.ReTarget} {Q : Option Sre.M → Shared → Prop} (h1 : (Sre.header t.code).1 = 2) (h2 : t.lim = 1) (h : Q none s) : wpAny M A (Builtin.Re.reNextFound t 0 false) Q E s := by
  unfold Builtin.Re.reNextFound Sre.forSearch
  dsimp only
  rw [h1, h2, if_pos (by decide)]
  exact run_fail rfl rfl h
theorem plain_join : plainId "bytes.join" = true := by decide +kernel
theorem entry_join : entryFor table "bytes.join" = some Builtin.«bytes.join» := entryFor_of_tree (by kernel_rfl)
theorem kind_join : builtinKind "bytes.join" = some .method := by decide +kernel
theorem split_join : splitId "bytes.join" = some ("bytes", "join") := by decide +kernel
theorem args_join (a b : Value) : argsOk "bytes.join" ⟨[a, b], []⟩ := by unfold argsOk; kernel_rfl
theorem is_bytes {M : Model} {h : Heap} {b : Array UInt8} {t : Tok} : Looks M h (isInstance (.bytes b t) (.type "bytes")) true := Looks.of_pure (by show isSubtype (.type "bytes") (.type "bytes") = _; rw [isSubtype_type]; kernel_rfl)
theorem join1 {l : Addr} {b : Array UInt8} {t u : Tok} {n : Nat} {Q : Value → Shared → Prop} (hl : s.heap.get? l = some { cls := .type "list", data := .seq #[.bytes b t] n }) (h : Q (.bytes b t) s) : wpAny (model prog w) A (call (.builtin "bytes.join") [.bytes #[] u, .ref l]) Q E s := by
  refine sub_call plain_join entry_join (.inr kind_join) split_join is_bytes (args_join _ _) ?_
  obtain ⟨hh, g, d, tk, os⟩ := s
  unfold Builtin.«bytes.join» Builtin.Bytes.joinM Builtin.Bytes.joinItems
  dsimp only
  repeat lk
  exact ⟨_, rfl, h⟩
theorem sub1 {c : UInt8} {t0 t1 : Tok} {Q : Value → Shared → Prop} (F : Fr h₀ L s.heap m) (X₀ : (hd.heap_1_39 w.params).In h₀) (N : News h₀ L s.heap news)
    (h : ∀ h' t k, Fr h₀ L h' m → News h₀ L h' news → Q (.bytes #[c] t) { s with heap := h', toks := k }) :
    wpAny (model prog w) A (call (.builtin "re.Pattern.sub") [.ref 151, .bytes #[] t0, .bytes #[c] t1]) Q E s := by
  have X : (hd.heap_1_39 w.params).In s.heap := X₀.keeps F.keep
  have hp := X _ _ (pat_at _)
  obtain ⟨o, h1, h2⟩ := any_some (pat_code w.params)
  obtain ⟨oc, od, oda, osl⟩ := o
  dsimp only at h2
  split at h2
  case h_2 => cases h2
  rename_i vs n
  have h3 := beq_iff_eq.mp h2
  have hc := X _ _ h1
  have hi : Looks (model prog w) s.heap (isInstance (.ref 151) (.type "re.Pattern")) true := ((Looks.ld (part := none) hp).andThen .now).andThen (Looks.of_pure (by show isSubtype (.type "re.Pattern") (.type "re.Pattern") = _; rw [isSubtype_type]; kernel_rfl))
  obtain ⟨hh, g, d, t, os⟩ := s
  refine wpAny_call ?_
  refine codeAny_call_builtin plain_sub entry_sub ?_
  refine check_meth (i := "re.Pattern.sub") (owner := "re.Pattern") (nm := "sub") (self := .ref 151) (rest := [.bytes #[] t0, .bytes #[c] t1]) (.inr kind_sub) split_sub hi (args_sub _ _ _) ?_
  rw [sub_eq]
  refine wpAny_bind (wpAny_holding ?_)
  refine whole1 hp hc ?_
  refine wpAny_bind (wpAny_newList ?_)
  refine wpAny_pure ?_
  refine ⟨Code.quiet_builtin _ (by decide +kernel), codeAny_builtin entry_subLoop ?_⟩
  have hl : (hh.push { cls := .type "list", data := .seq #[] }).get? hh.objs.size = some { cls := .type "list", data := .seq #[] } := Heap.get?_push_at rfl rfl
  have hp1 : (hh.push { cls := .type "list", data := .seq #[] }).get? 151 = some patO := Heap.get?_push_of_some _ hp
  have hc1 : (hh.push { cls := .type "list", data := .seq #[] }).get? 150 = _ := Heap.get?_push_of_some _ hc
  unfold Builtin.«re.Pattern.sub.loop»
  dsimp only
  refine wpAny_bind (whole1 hp1 hc1 ?_)
  rw [noTurn]
  refine KFB.if_so (by decide) (wpAny_bind (wpAny_pure ?_))
  dsimp only
  refine wpAny_bind (KFB.if_not (by decide) (next1 h3 rfl ?_))
  dsimp only
  rw [if_pos (by decide)]
  have es : ((#[c.toNat] : Array Nat).extract 0 1).map (·.toUInt8) = #[c] := by simp
  have ej : ((#[c.toNat] : Array Nat).extract 0 0).map (·.toUInt8) = #[] := by simp
  have hl2 : ((hh.push { cls := .type "list", data := .seq #[] }).update hh.objs.size (Obj.mapSeq fun xs => xs.push (.bytes #[c] t))).get? hh.objs.size = some { cls := .type "list", data := .seq #[.bytes #[c] t] 1 } := by
    rw [Heap.get?_update_self _ hl (by rfl)]
    rfl
  refine wpAny_bind (m := Builtin.Re.reSlice #[c.toNat] 1 0 1) ?_
  show wpAny _ _ (mkBytes _) _ _ _
  rw [es]
  refine wpAny_mkBytes ?_
  refine wpAny_bind (wpAny_updateSeq hl rfl ?_)
  refine wpAny_bind (m := Builtin.Re.reSlice #[c.toNat] 1 0 0) ?_
  show wpAny _ _ (mkBytes _) _ _ _
  rw [ej]
  refine wpAny_mkBytes ?_
  refine wpAny_bind (m := seqItems? (.ref hh.objs.size)) (wpAny_seqItems hl2 rfl ?_)
  refine KFB.if_not (by rfl) ?_
  refine wpAny_bind (m := call (.builtin "bytes.join") [.bytes #[] _, .ref hh.objs.size]) (join1 hl2 ?_)
  refine KFB.if_not (by rfl) (wpAny_pure ?_)
  have hs : ∀ b o, hh.get? b = some o → ((hh.push { cls := .type "list", data := .seq #[] }).update hh.objs.size (Obj.mapSeq fun xs => xs.push (.bytes #[c] t))).get? b = some o := by
    intro b o e
    have hne : b ≠ hh.objs.size := Nat.ne_of_lt (Heap.lt_size e)
    exact ((Heap.SameBut.update _ _ _).2 b hne).trans (Heap.get?_push_of_some _ e)
  exact h _ _ _ (F.kept hs) (N.grown hs)
end
end

section
open PySem PySem.W PyProof.Rows PySem.Spec PySem.Calls
set_option Elab.async false
set_option maxRecDepth 100000
set_option maxHeartbeats 8000000
set_option linter.all false
theorem fresh_E18 {prog : Program} {w : World} {A : Around} {E : Value → Shared → Prop} {s : Shared} {Q : Value → Shared → Prop} (h : wpAny (model prog w) A (call (.int 0 0) []) Q E s) : wpAny (model prog w) A (call (.int 0 0) []) Q E s := by
  k_with_none
  w_top off
  first | (walk1; fail) | exact h
theorem line_E18_1 : True := by
  k_with "own_my_denter" => (refine' code_def ?k1 ?k2 ?k3 ?k4 ?k5 ?kA ?kF ?kK ?k6 ?k7 ?k8 ?k9 ?kB ?_ ?c2 ?c3 ?c4 ?c5; (case kA => exact rfl); (case kF => exact rfl); (case kK => assumption); (case k1 => k_asm); (case k2 => k_asm); (case k3 => k_asm); (case k4 => k_asm); (case k5 => k_asm); (case k6 => k_is); (case k7 => k_is); (case k8 => ktr_room); (case k9 => first | exact binds_K (by k_in) rfl (by k_is) rfl rfl rfl | exact BindsTo.of_eq rfl); (case c5 => decide); (case kB => exact locs rfl); (case c2 => exact rfl); (case c3 => exact rfl); (case c4 => exact rfl); k_whole; intro g' L' h' FG' F' N' B' X' T'; (try dsimp only); (try k_fold))
  trivial
theorem plain_pat : PlainAttrs "re.Pattern" :=
  ⟨⟨"object.__getattribute__", by rw [typeLookup_type, builtinLookup_eq_fast]; kernel_rfl, by decide +kernel⟩, by rw [typeLookup_type, builtinLookup_eq_fast]; kernel_rfl⟩
theorem slot_pat_sub : Slot "re.Pattern" "sub" "re.Pattern.sub" := .of (owner := "re.Pattern") (n := "sub") (by rw [typeLookup_type, builtinLookup_eq_fast]; kernel_rfl) (by decide +kernel) (by decide +kernel) (by decide +kernel)
    (by first | exact .inl (by decide +kernel) | exact .inr (by decide +kernel)) (by rw [isSubtype_type]; kernel_rfl)
theorem ty_pat_sub : typeOf (.builtin "re.Pattern.sub") = pure (.type "method_descriptor") := by show builtinType _ = _; rw [builtinType_eq_fast]; kernel_rfl
theorem pat_m {prog : Program} {w : World} {A : Around} {E : Value → Shared → Prop} {s : Shared} {h₀ : Heap} {L : Addr} {m : Str → Option Value} {pl : Sem Bool} {Q : Value × List Value → Shared → Prop} (F : Fr h₀ L s.heap m) (X₀ : (hd.heap_1_39 w.params).In h₀) (h : Q (.builtin "re.Pattern.sub", [.ref 151]) s) : wpAny (model prog w) A (getMethod (.ref 151) "sub" pl) Q E s := by
  have hp : s.heap.get? 151 = some patO := (X₀.keeps F.keep) _ _ (pat_at _)
  exact getMethod_builtin (T := "re.Pattern") ⟨_, hp, rfl⟩ plain_pat slot_pat_sub ty_pat_sub (fun a e => by cases e; exact ⟨_, hp, rfl⟩) h
theorem plain_count : plainId "bytes.count" = true := by decide +kernel
theorem entry_count : entryFor table "bytes.count" = some Builtin.«bytes.count» := entryFor_of_tree (by kernel_rfl)
theorem kind_count : builtinKind "bytes.count" = some .method := by decide +kernel
theorem split_count : splitId "bytes.count" = some ("bytes", "count") := by decide +kernel
theorem args_count (a b : Value) : argsOk "bytes.count" ⟨[a, b], []⟩ := by unfold argsOk; kernel_rfl
theorem slot_count : Slot "bytes" "count" "bytes.count" := .of (owner := "bytes") (n := "count") (by rw [typeLookup_type, builtinLookup_eq_fast]; kernel_rfl) (by decide +kernel) (by decide +kernel) (by decide +kernel)
    (by first | exact .inl (by decide +kernel) | exact .inr (by decide +kernel)) (by rw [isSubtype_type]; kernel_rfl)
theorem ty_count : typeOf (.builtin "bytes.count") = pure (.type "method_descriptor") := by show builtinType _ = _; rw [builtinType_eq_fast]; kernel_rfl
theorem occ1 (c b : UInt8) : (Builtin.Bytes.occurrences #[c] #[b] 0 1).length = if c = b then 1 else 0 := by
  unfold Builtin.Bytes.occurrences
  have e : (#[c] : Array UInt8).extract 0 (0 + (#[b] : Array UInt8).size) = #[c] := by simp
  simp [List.range_succ]
  split <;> simp_all
theorem count1 {prog : Program} {w : World} {A : Around} {E : Value → Shared → Prop} {s : Shared} {c b : UInt8} {t u : Tok} {Q : Value → Shared → Prop} (h : ∀ t' k, Q (.int (if c = b then 1 else 0) t') { s with toks := k }) : wpAny (model prog w) A (call (.builtin "bytes.count") [.bytes #[c] t, .bytes #[b] u]) Q E s := by
  refine sub_call plain_count entry_count (.inr kind_count) split_count is_bytes (args_count _ _) ?_
  have e : Builtin.«bytes.count» ⟨[.bytes #[c] t, .bytes #[b] u], []⟩ = retInt ((Builtin.Bytes.occurrences #[c] #[b] 0 1).length : Nat) := by kernel_rfl
  rw [e, occ1]
  refine wpAny_bind (wpAny_mkInt ?_)
  refine wpAny_pure ⟨_, rfl, ?_⟩
  have e2 : (((if c = b then 1 else 0 : Nat)) : Int) = (if c = b then 1 else 0) := by split <;> rfl
  rw [e2]
  exact h s.toks (s.toks + 1)
theorem m_count {prog : Program} {w : World} {A : Around} {E : Value → Shared → Prop} {s : Shared} {x : Array UInt8} {t : Tok} {pl : Sem Bool} {Q : Value × List Value → Shared → Prop} (h : Q (.builtin "bytes.count", [.bytes x t]) s) : wpAny (model prog w) A (getMethod (.bytes x t) "count" pl) Q E s := by
  with_reducible exact KBd.method_of (.bytes x t) (typeIs_bytes _ _ _) slot_count ty_count KBd.noRef h
structure ParD where
  c : UInt8
  dep : Int
noncomputable def ParD.out (d : ParD) : Int := d.dep + (if d.c = 40 then 1 else 0) - (if d.c = 41 then 1 else 0)
inductive ParArg (news : List (Addr × Obj)) : List Value → ParD → Prop where
  | mk {c : UInt8} {dep : Int} {t1 t2 : Tok} : ParArg news [.bytes #[c] t1, .int dep t2] ⟨c, dep⟩
noncomputable abbrev parT : ToldN ParD where
  Rel := ParArg
  Ok := fun _ => True
  size := fun _ => 1
  Tl := fun tl => tl = []
  Out := fun _ r d => ∃ t, r = .int d.out t
theorem paren_ct (w : World) (mean : ExcName → Option Value) (mg mb : Str → Option Value) : ∀ d, TellsN PySem.Challenge.rw_xn0010_01.row.prog w (hd.heap_1_39 w.params) hd.view_1_40 LS mean mg mb 159 parT d := by
  w_on
  k_fill
  intro d
  unfold TellsN
  intro dp un gd cn cs a ccd cl outer A₀ base h₀ L m news s vs Q E B F X N T hk hR hok hd hu hret
  obtain @⟨c, dep, t1, t2⟩ := hR
  refine wpAny_call ?_
  k_dflt (k_extra "own_my_denter")
  k_with "getMethod ref" => (k_dflt (refine pat_m (by k_asm) (by k_asm) ?_))
  k_with "getMethod bytes" => (with_reducible refine m_count ?_)
  k_with "call builtin:bytes.count" => (k_dflt (refine count1 ?_; intro t6 k6))
  k_with "call builtin:re.Pattern.sub" => (k_dflt (refine sub1 (by k_asm) (by k_asm) (by k_asm) ?_; intro h5 t5 k5 F5 N5))
  k_steps
  exact hret _ [] _ _ (by k_asm) (news_nil (by k_asm)) ktn_ord0 rfl ⟨_, rfl⟩
end

section
open PySem PySem.W PyProof.Rows PySem.Spec PySem.Calls
set_option Elab.async false
set_option maxRecDepth 100000
set_option maxHeartbeats 8000000
set_option linter.all false
noncomputable abbrev lc2 (elt t0 i0 t1 i1 : PySem.Expr) (scope : Scope) (pos : Pos) : PySem.Expr := .ListComp elt [⟨t0, i0, [], 0⟩, ⟨t1, i1, [], 0⟩] scope pos
section
variable {prog : Program} {w : World} {A : Around} {R : Result → Shared → Prop} {s : Shared}
theorem turn2_inner (elt t0 i0 t1 i1 : PySem.Expr) (scope : Scope) (pos : Pos) (it acc : Value) (env : Env) :
    compTurn (lc2 elt t0 i0 t1 i1 scope pos) 1 it acc env = (standAt i1.pos >>= fun _ => pyNext it >>= fun r => match r with
      | none => pure (.done .next)
      | some v => letOwnedTupleGo t1 it v >>= fun _ => assign t1 env v >>= fun _ =>
        (eval elt env >>= fun x => call (.builtin "list.append") [acc, x] >>= fun _ => pure ()) >>= fun _ =>
          again (.compLoop (lc2 elt t0 i0 t1 i1 scope pos) 1 it acc env)) := by rfl
theorem turn2_outer (elt t0 i0 t1 i1 : PySem.Expr) (scope : Scope) (pos : Pos) (it acc : Value) (env : Env) :
    compTurn (lc2 elt t0 i0 t1 i1 scope pos) 0 it acc env = (standAt i0.pos >>= fun _ => pyNext it >>= fun r => match r with
      | none => pure (.done .next)
      | some v => letOwnedTupleGo t0 it v >>= fun _ => assign t0 env v >>= fun _ =>
        eval i1 env >>= fun x => standAt i1.pos >>= fun _ => foldedSetIterable i1 env x >>= fun x => holding [x] (pyIter x) >>= fun y => runOwn (.compStart (lc2 elt t0 i0 t1 i1 scope pos) 1 y acc env) env >>= fun _ =>
          again (.compLoop (lc2 elt t0 i0 t1 i1 scope pos) 0 it acc env)) := by rfl
theorem loop2_inner {elt t0 i0 t1 i1 : PySem.Expr} {scope : Scope} {pos : Pos} {it acc : Value} {env : Env} (I : Nat → Shared → Prop)
    (turn : ∀ n s, I n s → wpAny (model prog w) A (pyNext it) (fun r s₁ => match r with
      | none => R (.ok .next) s₁
      | some v => wpAny (model prog w) A (assign t1 env v) (fun _ s₂ => wpAny (model prog w) A (eval elt env) (fun x s₃ =>
          wpAny (model prog w) A (call (.builtin "list.append") [acc, x]) (fun _ s₄ => ∃ m, m < n ∧ I m s₄) (notedBy (model prog w) A env fun e s' => R (.error e) s') s₃)
          (notedBy (model prog w) A env fun e s' => R (.error e) s') s₂) (notedBy (model prog w) A env fun e s' => R (.error e) s') s₁) (notedBy (model prog w) A env fun e s' => R (.error e) s') s)
    (n : Nat) (h : I n s) (ht : ∀ v, letOwnedTupleGo t1 it v = pure () := by intro _; rfl) :
    codeAny (model prog w) A (.compLoop (lc2 elt t0 i0 t1 i1 scope pos) 1 it acc env) R s := by
  refine codeAny_loop rfl I (fun n s hI => ?_) n h
  show wpAny _ _ ((compTurn (lc2 elt t0 i0 t1 i1 scope pos) 1 it acc env).onRaise (fun x => do noteFrame x env; theTreesLotGoes x)) _ _ s
  refine wpAny_noted ?_
  rw [turn2_inner]
  refine wpAny_bind (wpAny_standAt (wpAny_bind (wpAny_mono (turn n s hI) (fun r s₁ h₁ => ?_) fun _ _ h' => h')))
  cases r with
  | none => exact wpAny_pure h₁
  | some v =>
    refine wpAny_bind (wpAny_of_eq (ht v) ?_)
    exact wpAny_bind (wpAny_mono h₁ (fun _ s₂ h₂ => wpAny_bind (wpAny_bind (wpAny_mono h₂ (fun x s₃ h₃ => wpAny_bind (wpAny_mono h₃
      (fun _ s₄ h₄ => wpAny_pure (wpAny_pure ⟨rfl, h₄⟩)) fun _ _ h' => h')) fun _ _ h' => h'))) fun _ _ h' => h')
theorem loop2_outer {elt t0 i0 t1 i1 : PySem.Expr} {scope : Scope} {pos : Pos} {it acc : Value} {env : Env} (I : Nat → Shared → Prop)
    (turn : ∀ n s, I n s → wpAny (model prog w) A (pyNext it) (fun r s₁ => match r with
      | none => R (.ok .next) s₁
      | some v => wpAny (model prog w) A (assign t0 env v) (fun _ s₂ => wpAny (model prog w) A (eval i1 env) (fun x s₃ => wpAny (model prog w) A (foldedSetIterable i1 env x) (fun x s₄ => wpAny (model prog w) A (pyIter x) (fun y s₅ =>
          wpAny (model prog w) A (runOwn (.compStart (lc2 elt t0 i0 t1 i1 scope pos) 1 y acc env) env) (fun _ s₆ => ∃ m, m < n ∧ I m s₆) (notedBy (model prog w) A env fun e s' => R (.error e) s') s₅)
          (notedBy (model prog w) A env fun e s' => R (.error e) s') s₄) (notedBy (model prog w) A env fun e s' => R (.error e) s') s₃) (notedBy (model prog w) A env fun e s' => R (.error e) s') s₂) (notedBy (model prog w) A env fun e s' => R (.error e) s') s₁) (notedBy (model prog w) A env fun e s' => R (.error e) s') s)
    (n : Nat) (h : I n s) (ht : ∀ v, letOwnedTupleGo t0 it v = pure () := by intro _; rfl) :
    codeAny (model prog w) A (.compLoop (lc2 elt t0 i0 t1 i1 scope pos) 0 it acc env) R s := by
  refine codeAny_loop rfl I (fun n s hI => ?_) n h
  show wpAny _ _ ((compTurn (lc2 elt t0 i0 t1 i1 scope pos) 0 it acc env).onRaise (fun x => do noteFrame x env; theTreesLotGoes x)) _ _ s
  refine wpAny_noted ?_
  rw [turn2_outer]
  refine wpAny_bind (wpAny_standAt (wpAny_bind (wpAny_mono (turn n s hI) (fun r s₁ h₁ => ?_) fun _ _ h' => h')))
  cases r with
  | none => exact wpAny_pure h₁
  | some v =>
    refine wpAny_bind (wpAny_of_eq (ht v) ?_)
    refine wpAny_bind (wpAny_mono h₁ (fun _ s₂ h₂ => ?_) fun _ _ h' => h')
    refine wpAny_bind (wpAny_mono h₂ (fun _ s₃ h₃ => wpAny_bind (wpAny_standAt ?_)) fun _ _ h' => h')
    refine wpAny_bind (wpAny_mono h₃ (fun _ s₄ h₄ => ?_) fun _ _ h' => h')
    refine wpAny_bind (wpAny_holding (wpAny_mono h₄ (fun _ s₅ h₅ => ?_) fun _ _ h' => h'))
    exact wpAny_bind (wpAny_mono h₅ (fun _ s₆ h₆ => wpAny_pure ⟨rfl, h₆⟩) fun _ _ h' => h')
theorem start2 {elt t0 i0 t1 i1 : PySem.Expr} {scope : Scope} {pos : Pos} {it acc : Value} {env : Env}
    (h0 : codeAny (model prog w) A (.compLoop (lc2 elt t0 i0 t1 i1 scope pos) 1 it acc env) R s)
    (h : wpAny (model prog w) A (pyIter it) (fun it' s' => codeAny (model prog w) A (.compLoop (lc2 elt t0 i0 t1 i1 scope pos) 1 it' acc env) R s') (notedBy (model prog w) A env fun x s' => R (.error x) s') s) :
    codeAny (model prog w) A (.compStart (lc2 elt t0 i0 t1 i1 scope pos) 1 it acc env) R s := by
  refine codeAny_of_tree ?_
  show wpAny _ _ ((compStart (lc2 elt t0 i0 t1 i1 scope pos) 1 it acc env).onRaise (fun x => do noteFrame x env; standAt theWindowsPlace)) _ _ s
  refine wpAny_notedAt ?_
  unfold compStart
  show wpAny _ _ (ask >>= _) _ _ s
  refine wpAny_bind (wpAny_askSetting (wpAny_ite ?_))
  split
  · first
      | exact wpAny_bind (wpAny_pure (wpAny_pure (And.intro rfl h0)))
      | exact wpAny_pure (And.intro rfl h0)
  · first
      | exact wpAny_bind (wpAny_rule (wpAny_bind (wpAny_standAt (wpAny_bind (wpAny_mono h (fun it' s' h' => wpAny_pure (And.intro rfl h')) fun _ _ x => x)))))
      | (refine wpAny_bind (wpAny_rule ?_); show wpAny _ _ (standAt i1.pos >>= _) _ _ s; exact wpAny_bind (wpAny_standAt (wpAny_bind (wpAny_mono h (fun it' s' h' => wpAny_pure (And.intro rfl h')) fun _ _ x => x))))
end
end

section
open PySem PySem.W PyProof.Rows PySem.Spec PySem.Calls
set_option Elab.async false
set_option maxRecDepth 100000
set_option maxHeartbeats 8000000
set_option linter.all false
/-- a list of new pairs -/
inductive PairsIn (tl : List (Addr × Obj)) : List Value → List (Value × Value) → Prop where
  | nil : PairsIn tl [] []
  | snoc {ys : List Value} {ps : List (Value × Value)} {q : Addr} {a b : Value} : PairsIn tl ys ps → (q, tupO [a, b] 0) ∈ tl → PairsIn tl (ys ++ [.ref q]) (ps ++ [(a, b)])
theorem PairsIn.mono {tl tl' : List (Addr × Obj)} {ys : List Value} {ps : List (Value × Value)} (h : PairsIn tl ys ps) (hs : ∀ p ∈ tl, p ∈ tl') : PairsIn tl' ys ps := by
  induction h with
  | nil => exact .nil
  | snoc _ hm ih => exact .snoc ih (hs _ hm)
theorem PairsIn.length {tl : List (Addr × Obj)} {ys : List Value} {ps : List (Value × Value)} (h : PairsIn tl ys ps) : ys.length = ps.length := by
  induction h with
  | nil => rfl
  | snoc _ _ ih => simp [ih]
noncomputable def pairs (xs ys : List Value) : List (Value × Value) := xs.flatMap fun a => ys.map fun b => (a, b)
open LCg
structure Blk (h₀ : Heap) (L : Addr) (m : Str → Option Value) (C D : Addr) (news : List (Addr × Obj)) (h : Heap) (ys : List Value) (tl : List (Addr × Obj)) (m' : Str → Option Value) : Prop where
  fr : Fr h₀ L h m
  ns : h.Ns C m'
  nw : News h₀ L h ((D, lst ys) :: (tl ++ news))
  offC : ∀ p ∈ tl ++ news, p.1 ≠ C
  offD : ∀ p ∈ tl ++ news, p.1 ≠ D
  hCD : C ≠ D
  hCL : C ≠ L
  hC₀ : h₀.get? C = none
/-- a step that changes no more than the address d, which none of the block's parts stands at -/
theorem Blk.but {h₀ h h' : Heap} {L C D d : Addr} {m m' : Str → Option Value} {news tl : List (Addr × Obj)} {ys : List Value} (b : Blk h₀ L m C D news h ys tl m') (hs : ∀ b o, b ≠ d → h.get? b = some o → h'.get? b = some o)
    (hL : L ≠ d) (hd : h₀.get? d = none) (hC : C ≠ d) (hD : D ≠ d) (ht : ∀ p ∈ tl ++ news, p.1 ≠ d) : Blk h₀ L m C D news h' ys tl m' where
  fr := ⟨b.fr.ns.at' fun o e => hs L o hL e, fun x o e => hs x o (fun q => by rw [q, hd] at e; cases e) (b.fr.keep x o e), b.fr.above⟩
  ns := b.ns.at' fun o e => hs C o hC e
  nw := fun p hp => ⟨hs _ _ (by rcases List.mem_cons.mp hp with rfl | hp; exact hD; exact ht p hp) (b.nw p hp).1, (b.nw p hp).2⟩
  offC := b.offC
  offD := b.offD
  hCD := b.hCD
  hCL := b.hCL
  hC₀ := b.hC₀
theorem Blk.kept {h₀ h h' : Heap} {L C D : Addr} {m m' : Str → Option Value} {news tl : List (Addr × Obj)} {ys : List Value} (b : Blk h₀ L m C D news h ys tl m') (hs : ∀ b o, h.get? b = some o → h'.get? b = some o) : Blk h₀ L m C D news h' ys tl m' where
  fr := b.fr.kept hs
  ns := b.ns.at' fun o e => hs _ o e
  nw := fun p hp => ⟨hs _ _ (b.nw p hp).1, (b.nw p hp).2⟩
  offC := b.offC
  offD := b.offD
  hCD := b.hCD
  hCL := b.hCL
  hC₀ := b.hC₀
theorem Blk.store {h₀ h h' : Heap} {L C D : Addr} {m m' m2 : Str → Option Value} {news tl : List (Addr × Obj)} {ys : List Value} (b : Blk h₀ L m C D news h ys tl m') (hs : Heap.SameBut C h h') (hn : h'.Ns C m2) : Blk h₀ L m C D news h' ys tl m2 where
  fr := b.fr.change hs b.hCL b.hC₀
  ns := hn
  nw := fun p hp => ⟨hs.extBut _ _ (by rcases List.mem_cons.mp hp with rfl | hp; exact Ne.symm b.hCD; exact b.offC p hp) (b.nw p hp).1, (b.nw p hp).2⟩
  offC := b.offC
  offD := b.offD
  hCD := b.hCD
  hCL := b.hCL
  hC₀ := b.hC₀
theorem Blk.push {h₀ h : Heap} {L C D : Addr} {m m' : Str → Option Value} {news tl : List (Addr × Obj)} {ys : List Value} (b : Blk h₀ L m C D news h ys tl m') (o : Obj) (ho : o.isFreed = false) : Blk h₀ L m C D news (h.push o) ys ((h.objs.size, o) :: tl) m' where
  fr := b.fr.push o
  ns := b.ns.at' fun o' e => Heap.get?_push_of_some _ e
  nw := by
    have N1 := b.nw.push b.fr o ho
    intro p hp
    refine N1 p ?_
    rcases List.mem_cons.mp hp with rfl | hp
    · exact .tail _ (.head _)
    · rcases List.mem_cons.mp hp with rfl | hp
      · exact .head _
      · exact .tail _ (.tail _ hp)
  offC := fun p hp => by
    rcases List.mem_cons.mp hp with rfl | hp
    · obtain ⟨oc, hoc, _⟩ := ns_obj b.ns
      exact Ne.symm (Nat.ne_of_lt (Heap.lt_size hoc))
    · exact b.offC p hp
  offD := fun p hp => by
    rcases List.mem_cons.mp hp with rfl | hp
    · exact Ne.symm (Nat.ne_of_lt (Heap.lt_size (b.nw _ (.head _)).1))
    · exact b.offD p hp
  hCD := b.hCD
  hCL := b.hCL
  hC₀ := b.hC₀
theorem Blk.app {h₀ h h' : Heap} {L C D : Addr} {m m' : Str → Option Value} {news tl : List (Addr × Obj)} {ys ys2 : List Value} (b : Blk h₀ L m C D news h ys tl m') (hs : Heap.SameBut D h h') (hD : h'.get? D = some (lst ys2)) : Blk h₀ L m C D news h' ys2 tl m' where
  fr := b.fr.change hs (b.nw _ (.head _)).2.1 (b.nw _ (.head _)).2.2
  ns := b.ns.sameBut hs b.hCD
  nw := fun p hp => by
    rcases List.mem_cons.mp hp with rfl | hp
    · exact ⟨hD, (b.nw _ (.head _)).2⟩
    · exact ⟨hs.extBut _ _ (b.offD p hp) (b.nw p (.tail _ hp)).1, (b.nw p (.tail _ hp)).2⟩
  offC := b.offC
  offD := b.offD
  hCD := b.hCD
  hCL := b.hCL
  hC₀ := b.hC₀
section
variable {prog : Program} {w : World} {A : Around} {R : Result → Shared → Prop} {h₀ : Heap} {L : Addr} {m : Str → Option Value} {env : Env}
theorem pairs_inner {elt t0 i0 i1 : PySem.Expr} {x0 x1 : Str} {p1 : Pos} {scope : Scope} {cl : List (Str × Addr)} {pos : Pos} {C D I0 I1 ax0 ax1 : Addr} {its0 : Array Value} {its1 : List Value} {n1 k0 : Nat} {news tl : List (Addr × Obj)} {ys : List Value} {ps : List (Value × Value)} {m' : Str → Option Value} {a : Value} {s : Shared}
    (hh : A.handled = none) (hx1 : scope.names.lookup x1 = some .local) (hkind : scope.kind = .function) (hne : x0 ≠ x1)
    (hax : (ax1, listOf its1.toArray n1) ∈ news) (hsz : ps.length + its1.length ≤ 1000)
    (helt : ∀ (s : Shared) (m' : Str → Option Value) (b : Value) (Q : Value → Shared → Prop) (E : Value → Shared → Prop), s.heap.Ns C m' → m' x0 = some a → m' x1 = some b → (∀ tk, Q (.ref s.heap.objs.size) { s with heap := s.heap.push (tupO [a, b] 0), toks := tk }) → wpAny (model prog w) A (eval elt (compEnvC scope cl C env)) Q E s)
    (B : Blk h₀ L m C D news s.heap ys tl m') (ha : m' x0 = some a) (hps : PairsIn tl ys ps) (h1 : s.heap.IsListIter I1 ax1 0) (h0 : s.heap.IsListIter I0 ax0 k0)
    (e10 : I1 ≠ I0) (e1C : I1 ≠ C) (e1D : I1 ≠ D) (e1L : L ≠ I1) (e1h : h₀.get? I1 = none) (e0C : I0 ≠ C) (e0D : I0 ≠ D) (e1t : ∀ p ∈ tl ++ news, p.1 ≠ I1) (e0t : ∀ p ∈ tl ++ news, p.1 ≠ I0)
    (hR : ∀ h' tk m2 ys' tl', Blk h₀ L m C D news h' ys' tl' m2 → PairsIn tl' ys' (ps ++ its1.map fun b => (a, b)) → h'.IsListIter I0 ax0 k0 → (∀ p ∈ tl' ++ news, p.1 ≠ I0) → R (.ok .next) { s with heap := h', toks := tk }) :
    codeAny (model prog w) A (.compLoop (lc2 elt t0 i0 (.Name x1 p1) i1 scope pos) 1 (.ref I1) (.ref D) (compEnvC scope cl C env)) R s := by
  have hax' : ax1 ≠ I1 := fun e => e1t (ax1, _) (List.mem_append.mpr (.inr hax)) e
  have W := Walks.list (prog := prog) (w := w) hh I1 ax1 hax' its1.toArray
  rw [List.size_toArray] at W
  refine loop2_inner (fun k s' => ∃ h' tk j ys' tl' m2, s' = { s with heap := h', toks := tk } ∧ j ≤ its1.length ∧ k = its1.length + 1 - j ∧ h'.IsListIter I1 ax1 j ∧ h'.IsListIter I0 ax0 k0 ∧ Blk h₀ L m C D news h' ys' tl' m2 ∧ m2 x0 = some a ∧
    (∀ p ∈ tl' ++ news, p.1 ≠ I1) ∧ (∀ p ∈ tl' ++ news, p.1 ≠ I0) ∧ PairsIn tl' ys' (ps ++ (its1.take j).map fun b => (a, b))) ?_ (its1.length + 1) ⟨s.heap, s.toks, 0, ys, tl, m', rfl, Nat.zero_le _, rfl, h1, h0, B, ha, e1t, e0t, by simpa using hps⟩
  rintro k s' ⟨h', tk, j, ys', tl', m2, rfl, hj, rfl, hi1, hi0, B', ha', t1, t0', hp'⟩
  have hl1 : h'.IsList ax1 its1.toArray := ⟨_, (B'.nw _ (.tail _ (List.mem_append.mpr (.inr hax)))).1, rfl, n1, rfl⟩
  by_cases hlt : j < its1.length
  · refine W.item j _ _ _ hlt ⟨hi1, hl1⟩ fun v h2 tk2 hPv hst hk => ?_
    have hv : its1[j]? = some v := by simpa using hPv
    have B2 := B'.but (h' := h2) (d := I1) (fun b o hb e => hk b o (by simpa using hb) e) e1L e1h (Ne.symm e1C) (Ne.symm e1D) t1
    have hi0' : h2.IsListIter I0 ax0 k0 := hi0.at fun o e => hk _ o (by simpa using Ne.symm e10) e
    refine wpAny_assign_Name (wpAny_storeName_local (lookup_relabel_local hx1) B2.ns (fun h3 hn3 hs3 => ?_) (by simp [compEnvC, relabel, hkind]))
    have B3 := B2.store hs3 hn3
    refine helt _ _ v _ _ hn3 (by simp [hne, ha']) (by simp) fun tk3 => ?_
    have B4 := B3.push (tupO [a, v] 0) rfl
    have hT : ∀ b, b < h3.objs.size → b ≠ h3.objs.size := fun b hb => Nat.ne_of_lt hb
    have hyl := hp'.length
    simp only [List.length_append, List.length_map, List.length_take] at hyl
    refine append_at (hsz := by show ys'.toArray.size ≤ sizeLine; rw [List.size_toArray, hyl]; unfold sizeLine; omega) (B4.nw _ (.head _)).1 fun h5 hs5 hD5 => ?_
    have B5 := B4.app (ys2 := ys' ++ [.ref h3.objs.size]) hs5 (hD5.trans (congrArg some (lst_snoc _ _)))
    obtain ⟨o1, q1, r1⟩ := hst.1
    obtain ⟨o0, q0, r0⟩ := hi0'
    have q1' : h3.get? I1 = some o1 := hs3.extBut _ _ e1C q1
    have q0' : h3.get? I0 = some o0 := hs3.extBut _ _ e0C q0
    have g1 : h5.get? I1 = some o1 := hs5.extBut _ _ e1D (Heap.get?_push_of_some _ q1')
    have g0 : h5.get? I0 = some o0 := hs5.extBut _ _ e0D (Heap.get?_push_of_some _ q0')
    refine ⟨its1.length + 1 - (j + 1), by omega, h5, _, j + 1, _, _, _, rfl, hlt, rfl, ⟨o1, g1, r1⟩, ⟨o0, g0, r0⟩, B5, by simp [hne, ha'], fun p hp => ?_, fun p hp => ?_, ?_⟩
    · rcases List.mem_cons.mp hp with rfl | hp
      · exact fun e => Nat.lt_irrefl _ (e ▸ Heap.lt_size q1')
      · exact t1 p hp
    · rcases List.mem_cons.mp hp with rfl | hp
      · exact fun e => Nat.lt_irrefl _ (e ▸ Heap.lt_size q0')
      · exact t0' p hp
    · have e : (its1.take (j + 1)).map (fun b => (a, b)) = (its1.take j).map (fun b => (a, b)) ++ [(a, v)] := by rw [List.take_add_one, hv]; simp
      rw [e, ← List.append_assoc]
      exact .snoc (hp'.mono fun p hp => .tail _ hp) (.head _)
  · obtain rfl : j = its1.length := Nat.le_antisymm hj (Nat.not_lt.mp hlt)
    refine W.done _ _ _ ⟨hi1, hl1⟩ fun h2 tk2 hk => ?_
    have B2 := B'.but (h' := h2) (d := I1) (fun b o hb e => hk b o (by simpa using hb) e) e1L e1h (Ne.symm e1C) (Ne.symm e1D) t1
    rw [List.take_length] at hp'
    exact hR _ _ _ _ _ B2 hp' (hi0.at fun o e => hk _ o (by simpa using Ne.symm e10) e) t0'
theorem pairs_snoc (its0 its1 : List Value) (i : Nat) {a : Value} (h : its0[i]? = some a) : pairs (its0.take (i + 1)) its1 = pairs (its0.take i) its1 ++ its1.map fun b => (a, b) := by
  unfold pairs
  rw [List.take_add_one, h]
  simp
theorem pairs_len (xs ys : List Value) : (pairs xs ys).length = xs.length * ys.length := by
  unfold pairs
  induction xs with
  | nil => simp
  | cons x r ih => rw [List.flatMap_cons, List.length_append, ih, List.length_map, List.length_cons, Nat.add_mul, Nat.one_mul, Nat.add_comm]
theorem pairs_outer {elt i0 i1 : PySem.Expr} {x0 x1 : Str} {p0 p1 : Pos} {scope : Scope} {cl : List (Str × Addr)} {pos : Pos} {C D I0 ax0 ax1 : Addr} {its0 its1 : List Value} {n0 n1 : Nat} {news : List (Addr × Obj)} {m' : Str → Option Value} {s : Shared}
    (hh : A.handled = none) (hhm : (A.mark none).handled = none) (hx0 : scope.names.lookup x0 = some .local) (hx1 : scope.names.lookup x1 = some .local) (hkind : scope.kind = .function) (hne : x0 ≠ x1)
    (hax0 : (ax0, listOf its0.toArray n0) ∈ news) (hax : (ax1, listOf its1.toArray n1) ∈ news) (hs0 : its0.length ≤ 20) (hs1 : its1.length ≤ 20)
    (hi1 : ∀ (A : Around) (s : Shared) (Q : Value → Shared → Prop) (E : Value → Shared → Prop), News h₀ L s.heap news → Q (.ref ax1) s → wpAny (model prog w) A (eval i1 (compEnvC scope cl C env)) Q E s)
    (hf1 : ∀ x, foldedSetIterable i1 (compEnvC scope cl C env) x = pure x)
    (helt : ∀ (A : Around) (a : Value) (s : Shared) (m' : Str → Option Value) (b : Value) (Q : Value → Shared → Prop) (E : Value → Shared → Prop), s.heap.Ns C m' → m' x0 = some a → m' x1 = some b → (∀ tk, Q (.ref s.heap.objs.size) { s with heap := s.heap.push (tupO [a, b] 0), toks := tk }) → wpAny (model prog w) A (eval elt (compEnvC scope cl C env)) Q E s)
    (B : Blk h₀ L m C D news s.heap [] [] m') (h0 : s.heap.IsListIter I0 ax0 0)
    (e0C : I0 ≠ C) (e0D : I0 ≠ D) (e0L : L ≠ I0) (e0h : h₀.get? I0 = none) (e0t : ∀ p ∈ news, p.1 ≠ I0)
    (hR : ∀ h' tk m2 ys' tl', Blk h₀ L m C D news h' ys' tl' m2 → PairsIn tl' ys' (pairs its0 its1) → R (.ok .next) { s with heap := h', toks := tk }) :
    codeAny (model prog w) A (.compLoop (lc2 elt (.Name x0 p0) i0 (.Name x1 p1) i1 scope pos) 0 (.ref I0) (.ref D) (compEnvC scope cl C env)) R s := by
  have hax' : ax0 ≠ I0 := fun e => e0t (ax0, _) hax0 e
  have W := Walks.list (prog := prog) (w := w) hh I0 ax0 hax' its0.toArray
  rw [List.size_toArray] at W
  refine loop2_outer (fun k s' => ∃ h' tk i ys' tl' m2, s' = { s with heap := h', toks := tk } ∧ i ≤ its0.length ∧ k = its0.length + 1 - i ∧ h'.IsListIter I0 ax0 i ∧ Blk h₀ L m C D news h' ys' tl' m2 ∧
    (∀ p ∈ tl' ++ news, p.1 ≠ I0) ∧ PairsIn tl' ys' (pairs (its0.take i) its1)) ?_ (its0.length + 1) ⟨s.heap, s.toks, 0, [], [], m', rfl, Nat.zero_le _, rfl, h0, B, e0t, by simpa [pairs] using PairsIn.nil⟩
  rintro k s' ⟨h', tk, i, ys', tl', m2, rfl, hi, rfl, hi0, B', t0', hp'⟩
  have hl0 : h'.IsList ax0 its0.toArray := ⟨_, (B'.nw _ (.tail _ (List.mem_append.mpr (.inr hax0)))).1, rfl, n0, rfl⟩
  by_cases hlt : i < its0.length
  · refine W.item i _ _ _ hlt ⟨hi0, hl0⟩ fun v h2 tk2 hPv hst hk => ?_
    have hv : its0[i]? = some v := by simpa using hPv
    have B2 := B'.but (h' := h2) (d := I0) (fun b o hb e => hk b o (by simpa using hb) e) e0L e0h (Ne.symm e0C) (Ne.symm e0D) t0'
    refine wpAny_assign_Name (wpAny_storeName_local (lookup_relabel_local hx0) B2.ns (fun h3 hn3 hs3 => ?_) (by simp [compEnvC, relabel, hkind]))
    have B3 := B2.store hs3 hn3
    have N3 : News h₀ L h3 news := fun p hp => B3.nw p (.tail _ (List.mem_append.mpr (.inr hp)))
    refine hi1 _ _ _ _ N3 ?_
    rw [hf1]
    refine wpAny_pure ?_
    have hl1 : h3.IsList ax1 its1.toArray := ⟨_, (N3 _ hax).1, rfl, n1, rfl⟩
    refine wpAny_pyIter_list hl1 ?_
    have ke : ∀ b o, h3.get? b = some o → (h3.push { cls := .type "list_iterator", data := .fields #[.ref ax1, .int 0 0] }).get? b = some o := fun b o e => Heap.get?_push_of_some _ e
    have B4 := B3.kept ke
    obtain ⟨o0, q0, r0⟩ := hst.1
    have q0' : h3.get? I0 = some o0 := hs3.extBut _ _ e0C q0
    have lt : ∀ {b : Addr} {o : Obj}, h3.get? b = some o → b ≠ h3.objs.size := fun e => Nat.ne_of_lt (Heap.lt_size e)
    obtain ⟨oc, hoc, _⟩ := ns_obj B3.ns
    have hit1 : (h3.push { cls := .type "list_iterator", data := .fields #[.ref ax1, .int 0 0] }).IsListIter h3.objs.size ax1 0 := ⟨_, Heap.get?_push_size _ rfl, rfl, rfl⟩
    have inner : codeAny (model prog w) (A.mark none) (.compLoop (lc2 elt (.Name x0 p0) i0 (.Name x1 p1) i1 scope pos) 1 (.ref h3.objs.size) (.ref D) (compEnvC scope cl C env)) (fun r s' => (match r with | .ok _ => (∃ k', k' < its0.length + 1 - i ∧ ∃ h' tk i ys' tl' m2, s' = { s with heap := h', toks := tk } ∧ i ≤ its0.length ∧ k' = its0.length + 1 - i ∧ h'.IsListIter I0 ax0 i ∧ Blk h₀ L m C D news h' ys' tl' m2 ∧ (∀ p ∈ tl' ++ news, p.1 ≠ I0) ∧ PairsIn tl' ys' (pairs (its0.take i) its1)) | .error e => cameBackBy (model prog w) A (compEnvC scope cl C env) (notedBy (model prog w) A (compEnvC scope cl C env) fun e s' => R (.error e) s') e s')) { s with heap := h3.push { cls := .type "list_iterator", data := .fields #[.ref ax1, .int 0 0] }, toks := tk2 + 1 }:= by
      have hpl : (pairs (its0.take i) its1).length + its1.length ≤ 1000 := by
        rw [pairs_len, List.length_take]
        have : min i its0.length * its1.length ≤ 20 * 20 := Nat.mul_le_mul (by omega) hs1
        omega
      refine pairs_inner (its0 := #[]) (ys := ys') (tl := tl') hhm hx1 hkind hne hax hpl (fun s m' b Q E => helt _ v s m' b Q E) B4 (by simp) hp' hit1 ⟨o0, ke _ _ q0', r0⟩ (Ne.symm (lt q0')) (Ne.symm (lt hoc)) (Ne.symm (lt (B3.nw _ (.head _)).1)) ?_ ?_ e0C e0D (fun p hp => lt (B3.nw p (.tail _ hp)).1) t0' ?_
      · obtain ⟨oL, _, _, hL, _⟩ := B3.fr.ns
        exact lt hL
      · cases e : h₀.get? h3.objs.size with
        | none => rfl
        | some o => exact absurd rfl (lt (B3.fr.keep _ _ e))
      · intro h5 tk5 m5 ys5 tl5 B5 hp5 hi5 t5
        refine ⟨its0.length + 1 - (i + 1), by omega, h5, tk5, i + 1, ys5, tl5, m5, rfl, hlt, rfl, hi5, B5, t5, ?_⟩
        rw [pairs_snoc _ _ _ hv]
        exact hp5
    have W1 := Walks.list (prog := prog) (w := w) hhm h3.objs.size ax1 (lt (N3 _ hax).1) its1.toArray
    refine wpAny_runOwn (start2 inner (W1.self 0 _ _ _ ⟨hit1, hl1.at fun o e => ke _ _ e⟩ inner))
  · obtain rfl : i = its0.length := Nat.le_antisymm hi (Nat.not_lt.mp hlt)
    refine W.done _ _ _ ⟨hi0, hl0⟩ fun h2 tk2 hk => ?_
    have B2 := B'.but (h' := h2) (d := I0) (fun b o hb e => hk b o (by simpa using hb) e) e0L e0h (Ne.symm e0C) (Ne.symm e0D) t0'
    rw [List.take_length] at hp'
    exact hR _ _ _ _ _ B2 hp'
end
end

section
open PySem PySem.W PyProof.Rows PySem.Spec PySem.Calls
set_option Elab.async false
set_option maxRecDepth 100000
set_option maxHeartbeats 8000000
set_option linter.all false
open LCg
section
variable {prog : Program} {w : World} {A : Around} {E : Value → Shared → Prop} {h₀ : Heap} {L : Addr} {m : Str → Option Value} {env : Env}
theorem pairs_block {elt i0 i1 : PySem.Expr} {x0 x1 : Str} {p0 p1 : Pos} {scope : Scope} {cl : List (Str × Addr)} {pos : Pos} {I0 ax0 ax1 : Addr} {its0 its1 : List Value} {n0 n1 : Nat} {news : List (Addr × Obj)} {s₂ : Shared} {RR : Value → Addr → Result → Shared → Prop}
    (hh : A.handled = none) (hhm : (A.mark none).handled = none) (hx0 : scope.names.lookup x0 = some .local) (hx1 : scope.names.lookup x1 = some .local) (hcell : ∀ y ∈ scope.names, y.2 ≠ .cell) (hkind : scope.kind = .function) (hne : x0 ≠ x1)
    (hax0 : (ax0, listOf its0.toArray n0) ∈ news) (hax : (ax1, listOf its1.toArray n1) ∈ news) (hs0 : its0.length ≤ 20) (hs1 : its1.length ≤ 20)
    (hi1 : ∀ (C : Addr) (A : Around) (s : Shared) (Q : Value → Shared → Prop) (E : Value → Shared → Prop), News h₀ L s.heap news → Q (.ref ax1) s → wpAny (model prog w) A (eval i1 (compEnvC scope cl C env)) Q E s)
    (hf1 : ∀ C x, foldedSetIterable i1 (compEnvC scope cl C env) x = pure x)
    (helt : ∀ (C : Addr) (A : Around) (a : Value) (s : Shared) (m' : Str → Option Value) (b : Value) (Q : Value → Shared → Prop) (E : Value → Shared → Prop), s.heap.Ns C m' → m' x0 = some a → m' x1 = some b → (∀ tk, Q (.ref s.heap.objs.size) { s with heap := s.heap.push (tupO [a, b] 0), toks := tk }) → wpAny (model prog w) A (eval elt (compEnvC scope cl C env)) Q E s)
    (F : Fr h₀ L s₂.heap m) (N : News h₀ L s₂.heap news) (hit : s₂.heap.IsListIter I0 ax0 0) (e0L : L ≠ I0) (e0h : h₀.get? I0 = none) (off : ∀ p ∈ news, p.1 ≠ I0)
    (hRR : ∀ D C h tk m' ys tl, Blk h₀ L m C D news h ys tl m' → PairsIn tl ys (pairs its0 its1) → RR (.ref D) C (.ok .next) { s₂ with heap := h, toks := tk }) :
    wpAny (model prog w) A (newList []) (fun acc s₃ => wpAny (model prog w) A (newFunctionEnv scope env.globals cl [] env.qual none .none (some env)) (fun cenv s₄ =>
      codeAny (model prog w) A (.compStart (lc2 elt (.Name x0 p0) i0 (.Name x1 p1) i1 scope pos) 0 (.ref I0) acc { cenv with scope := relabel scope env }) (RR acc cenv.locals) s₄) E s₃) E s₂ := by
  refine wpAny_newObj_type (wpAny_newFunctionEnv hcell (by intro y hy; simp at hy) (fun h₁ hns₁ hsb₁ => ?_) hkind)
  dsimp only at hns₁ hsb₁ ⊢
  generalize hH2 : s₂.heap.push { cls := .type "list", dict := none, data := .seq ([] : List Value).toArray } = H2 at hns₁ hsb₁ ⊢
  have hC : H2.objs.size = s₂.heap.objs.size + 1 := by rw [← hH2, Heap.size_push]
  have hDC : s₂.heap.objs.size ≠ H2.objs.size := by rw [hC]; exact Nat.ne_of_lt (Nat.lt_succ_self _)
  have below : ∀ b, b < s₂.heap.objs.size → b ≠ H2.objs.size ∧ b ≠ s₂.heap.objs.size := fun b hb => ⟨by rw [hC]; exact Nat.ne_of_lt (Nat.lt_succ_of_lt hb), Nat.ne_of_lt hb⟩
  have old : ∀ b o, s₂.heap.get? b = some o → h₁.get? b = some o := fun b o e => hsb₁.extBut b o (below b (Heap.lt_size e)).1 (Heap.get?_push_of_some _ (hH2 ▸ Heap.get?_push_of_some _ e))
  have hacc : h₁.get? s₂.heap.objs.size = some (lst []) := hsb₁.extBut _ _ hDC (Heap.get?_push_of_some _ (hH2 ▸ Heap.get?_push_size _ rfl))
  have fresh : ∀ a, s₂.heap.objs.size ≤ a → s₂.heap.get? a = none := fun a ha => by
    cases e : s₂.heap.get? a with
    | none => rfl
    | some o' => exact absurd (Heap.lt_size e) (Nat.not_lt.mpr ha)
  have fresh₀ : ∀ a, s₂.heap.objs.size ≤ a → h₀.get? a = none := fun a ha => by
    cases e : h₀.get? a with
    | none => rfl
    | some o' => have := F.keep a o' e; rw [fresh a ha] at this; cases this
  have hD₀ : h₀.get? s₂.heap.objs.size = none := fresh₀ _ (Nat.le_refl _)
  have hC₀ : h₀.get? H2.objs.size = none := fresh₀ _ (by rw [hC]; exact Nat.le_succ _)
  have hLlt : L < s₂.heap.objs.size := F.ns.lt
  obtain ⟨oi, hoi, ri⟩ := hit
  have hIlt : I0 < s₂.heap.objs.size := Heap.lt_size hoi
  have B : Blk h₀ L m H2.objs.size s₂.heap.objs.size news h₁ [] [] _ := {
    fr := F.kept old
    ns := hns₁
    nw := fun p hp => by
      rcases List.mem_cons.mp hp with rfl | hp
      · exact ⟨hacc, Ne.symm (below L hLlt).2, hD₀⟩
      · exact ⟨old _ _ (N p hp).1, (N p hp).2⟩
    offC := fun p hp => (below _ (Heap.lt_size (N p hp).1)).1
    offD := fun p hp => (below _ (Heap.lt_size (N p hp).1)).2
    hCD := Ne.symm hDC
    hCL := Ne.symm (below L hLlt).1
    hC₀ := hC₀ }
  have hit₁ : h₁.IsListIter I0 ax0 0 := ⟨oi, old _ _ hoi, ri⟩
  have W := Walks.list (prog := prog) (w := w) hh I0 ax0 (fun e => off (ax0, _) hax0 e) its0.toArray
  have hl0 : h₁.IsList ax0 its0.toArray := ⟨_, old _ _ (N _ hax0).1, rfl, n0, rfl⟩
  have loop : ∀ s₃ : Shared, s₃ = { s₂ with heap := h₁, toks := s₂.toks + ([] : List (Str × Value)).length } →
      codeAny (model prog w) A (.compLoop (lc2 elt (.Name x0 p0) i0 (.Name x1 p1) i1 scope pos) 0 (.ref I0) (.ref s₂.heap.objs.size) (compEnvC scope cl H2.objs.size env))
        (RR (.ref s₂.heap.objs.size) H2.objs.size) s₃ := by
    rintro s₃ rfl
    exact pairs_outer hh hhm hx0 hx1 hkind hne hax0 hax hs0 hs1 (hi1 _) (hf1 _) (helt _) B hit₁ (below _ hIlt).1 (below _ hIlt).2 e0L e0h off (fun h' tk m2 ys' tl' B' hp => hRR _ _ _ _ _ _ _ B' hp)
  exact codeAny_compStart_list (loop _ rfl) (W.self 0 _ _ _ ⟨hit₁, hl0⟩ (loop _ rfl))
theorem Assign_pairs {elt i0 i1 : PySem.Expr} {x0 x1 y : Str} {p0 p1 py : Pos} {scope : Scope} {cl : List (Str × Addr)} {pos spos : Pos} {ax1 : Addr} {its1 : List Value} {n1 : Nat} {Q : Flow → Shared → Prop} {s : Shared} (_F₀ : Fr h₀ L s.heap m) (hLe : env.locals = L)
    (hsw : swapsWith (lc2 elt (.Name x0 p0) i0 (.Name x1 p1) i1 scope pos) (some (.Name y py)) spos.line env = pure true)
    (hclos : closureFor scope env = pure cl) (hcell : ∀ z ∈ scope.names, z.2 ≠ .cell) (hkind : scope.kind = .function)
    (hnames : ∀ z ∈ scope.names, z.2 = .local → scope.names.lookup z.1 = some .local) (hx0 : scope.names.lookup x0 = some .local) (hx1 : scope.names.lookup x1 = some .local) (hne : x0 ≠ x1)
    (hy : env.kindOf y = some .local) (hp : (env.scope.kind == .class || (env.scope.kind == .module && env.locals != env.globals)) = false)
    (hh : A.handled = none) (hhm : (A.mark none).handled = none)
    (hf1 : ∀ C x, foldedSetIterable i1 (compEnvC scope cl C env) x = pure x)
    (helt : ∀ (C : Addr) (A : Around) (a : Value) (s : Shared) (m' : Str → Option Value) (b : Value) (Q : Value → Shared → Prop) (E : Value → Shared → Prop), s.heap.Ns C m' → m' x0 = some a → m' x1 = some b → (∀ tk, Q (.ref s.heap.objs.size) { s with heap := s.heap.push (tupO [a, b] 0), toks := tk }) → wpAny (model prog w) A (eval elt (compEnvC scope cl C env)) Q E s)
    (h : wpAny (model prog w) A (eval i0 env) (fun xv s₁ => ∃ ax0 its0 n0 news, xv = .ref ax0 ∧ Fr h₀ L s₁.heap m ∧ News h₀ L s₁.heap news ∧ (ax0, listOf (List.toArray its0) n0) ∈ news ∧ (ax1, listOf its1.toArray n1) ∈ news ∧ its0.length ≤ 20 ∧ its1.length ≤ 20 ∧
      (∀ (C : Addr) (A : Around) (s : Shared) (Q : Value → Shared → Prop) (E : Value → Shared → Prop), News h₀ L s.heap news → Q (.ref ax1) s → wpAny (model prog w) A (eval i1 (compEnvC scope cl C env)) Q E s) ∧
      ∀ D h' tk ys tl, Fr h₀ L h' (fun z => if z = y then some (.ref D) else m z) → News h₀ L h' ((D, lst ys) :: (tl ++ news)) → (∀ p ∈ tl ++ news, p.1 ≠ D) → PairsIn tl ys (pairs its0 its1) → Q .next { s₁ with heap := h', toks := tk }) E s)
    (hs : ∀ x, foldedSetIterable i0 env x = pure x := by intro _; rfl) :
    wpAny (model prog w) A (exec (.Assign [.Name y py] (lc2 elt (.Name x0 p0) i0 (.Name x1 p1) i1 scope pos) spos) env) Q E s := by
  subst hLe
  rw [exec_Assign_Name_used _ _ _ _ hsw]
  refine wpAny_bind (wpAny_standAt (wpAny_bind ?_))
  show wpAny _ A (do let _ ← comprehension (lc2 elt (.Name x0 p0) i0 (.Name x1 p1) i1 scope pos) scope env _ (newList []) false (eval i0 env) (some (assign (.Name y py) env))) _ _ s
  refine wpAny_bind (wpAny_mono (wpAny_comprehension_free (use := some (assign (.Name y py) env)) (Q := fun _ s' => Q .next s') rfl hs hclos hkind hnames
    (wpAny_mono h (fun xv s₁ h₁ => ?_) fun _ _ e => e)) (fun _ s' hq => wpAny_pure (wpAny_pure hq)) fun _ _ e => e)
  obtain ⟨ax0, its0, n0, news, rfl, F, N, hm0, hm1, hs0, hs1, hi1, fin⟩ := h₁
  have hl : s₁.heap.IsList ax0 its0.toArray := ⟨_, (N _ hm0).1, rfl, n0, rfl⟩
  refine wpAny_pyIter_list hl ?_
  have up : ∀ b o, s₁.heap.get? b = some o → (s₁.heap.push { cls := .type "list_iterator", data := .fields #[.ref ax0, .int 0 0] }).get? b = some o := fun b o e => Heap.get?_push_of_some _ e
  refine pairs_block hh hhm hx0 hx1 hcell hkind hne hm0 hm1 hs0 hs1 hi1 hf1 helt (F.keeps up) (N.grown up) ⟨_, Heap.get?_push_size _ rfl, rfl, rfl⟩ (Nat.ne_of_lt F.ns.lt) (next_is_new F) (fun p hp => Nat.ne_of_lt (Heap.lt_size (N p hp).1)) ?_
  intro D C h' tk m' ys tl B hps
  show wpAny _ A (assign (.Name y py) env (.ref D)) _ _ _
  have F' := B.fr
  have N' := B.nw
  have hDL := (N' _ (.head _)).2.1
  refine wpAny_assign_Name (wpAny_storeName_local hy F'.ns (fun h₂ hn₂ hs₂ => ?_) hp)
  have hL₀ : h₀.get? env.locals = none := Heap.get?_none_of_le F'.above
  have F₂ : Fr h₀ env.locals h₂ (fun z => if z = y then some (.ref D) else m z) := ⟨hn₂, fun b o e => hs₂.extBut b o (fun q => by rw [q, hL₀] at e; cases e) (F'.keep b o e), F'.above⟩
  refine ⟨m', B.ns.sameBut hs₂ B.hCL, fun h'' hs'' => fin D h'' _ ys tl (F₂.change hs'' B.hCL B.hC₀) (fun p hp => ?_) B.offD hps⟩
  have z : h₂.get? p.1 = some p.2 := hs₂.extBut _ _ (N' p hp).2.1 (N' p hp).1
  refine ⟨hs''.extBut _ _ ?_ z, (N' p hp).2⟩
  rcases List.mem_cons.mp hp with rfl | hp
  · exact Ne.symm B.hCD
  · exact B.offC p hp
end
end

section
open PySem PySem.W PyProof.Rows PySem.Spec PySem.Calls
set_option Elab.async false
set_option maxRecDepth 100000
set_option maxHeartbeats 2000000
set_option linter.all false
open LCg LCp
inductive All2 {α β : Type} (R : α → β → Prop) : List α → List β → Prop where
  | nil : All2 R [] []
  | cons {x : α} {y : β} {xs : List α} {ys : List β} : R x y → All2 R xs ys → All2 R (x :: xs) (y :: ys)
theorem All2.length {α β : Type} {R : α → β → Prop} {xs : List α} {ys : List β} (h : All2 R xs ys) : xs.length = ys.length := by
  induction h with
  | nil => rfl
  | cons _ _ ih => simp [ih]
theorem All2.mono {α β : Type} {R S : α → β → Prop} {xs : List α} {ys : List β} (h : All2 R xs ys) (hs : ∀ x y, R x y → S x y) : All2 S xs ys := by
  induction h with
  | nil => exact .nil
  | cons hr _ ih => exact .cons (hs _ _ hr) ih
theorem All2.append {α β : Type} {R : α → β → Prop} {xs xs' : List α} {ys ys' : List β} (h : All2 R xs ys) (h' : All2 R xs' ys') : All2 R (xs ++ xs') (ys ++ ys') := by
  induction h with
  | nil => exact h'
  | cons hr _ ih => exact .cons hr ih
theorem All2.get {α β : Type} {R : α → β → Prop} {xs : List α} {ys : List β} (h : All2 R xs ys) {i : Nat} {x : α} (hx : xs[i]? = some x) : ∃ y, ys[i]? = some y ∧ R x y := by
  induction h generalizing i with
  | nil => simp at hx
  | cons hr _ ih =>
    cases i with
    | zero => exact ⟨_, rfl, by simpa using (by simpa using hx : _ = x) ▸ hr⟩
    | succ i => exact ih (by simpa using hx)
theorem All2.map {α β γ δ : Type} {R : α → β → Prop} {S : γ → δ → Prop} {f : α → γ} {g : β → δ} {xs : List α} {ys : List β} (h : All2 R xs ys) (hs : ∀ x y, R x y → S (f x) (g y)) : All2 S (xs.map f) (ys.map g) := by
  induction h with
  | nil => exact .nil
  | cons hr _ ih => exact .cons (hs _ _ hr) ih
theorem All2.flatMap {α β γ δ : Type} {R : α → β → Prop} {S : γ → δ → Prop} {f : α → List γ} {g : β → List δ} {xs : List α} {ys : List β} (h : All2 R xs ys) (hs : ∀ x y, R x y → All2 S (f x) (g y)) : All2 S (xs.flatMap f) (ys.flatMap g) := by
  induction h with
  | nil => exact .nil
  | cons hr _ ih => rw [List.flatMap_cons, List.flatMap_cons]; exact (hs _ _ hr).append ih
theorem All2.trans {α β γ : Type} {R : α → β → Prop} {S : β → γ → Prop} {xs : List α} {ys : List β} {zs : List γ} (h : All2 R xs ys) (h' : All2 S ys zs) : All2 (fun x z => ∃ y, R x y ∧ S y z) xs zs := by
  induction h generalizing zs with
  | nil => cases h'; exact .nil
  | cons hr _ ih => cases h' with
    | cons hs ht => exact .cons ⟨_, hr, hs⟩ (ih ht)
/-- a list of ints of the ledger -/
noncomputable def PRel (news : List (Addr × Obj)) (v : Value) (ns : List Int) : Prop := ∃ a vs n, v = .ref a ∧ (a, listOf (List.toArray vs) n) ∈ news ∧ IntsAre vs ns
noncomputable def PPair (news : List (Addr × Obj)) (v : Value) (p : List Int × List Int) : Prop := ∃ q, v = .ref q ∧ ∃ va vb, (q, tupO [va, vb] 0) ∈ news ∧ PRel news va p.1 ∧ PRel news vb p.2
theorem PRel.mono {news news' : List (Addr × Obj)} {v : Value} {ns : List Int} (h : PRel news v ns) (hs : ∀ p ∈ news, p ∈ news') : PRel news' v ns := by
  obtain ⟨a, vs, n, e, hm, hi⟩ := h; exact ⟨a, vs, n, e, hs _ hm, hi⟩
theorem PPair.mono {news news' : List (Addr × Obj)} {v : Value} {p : List Int × List Int} (h : PPair news v p) (hs : ∀ p ∈ news, p ∈ news') : PPair news' v p := by
  obtain ⟨q, e, va, vb, hm, h1, h2⟩ := h; exact ⟨q, e, va, vb, hs _ hm, h1.mono hs, h2.mono hs⟩
theorem pairs_all {tl news : List (Addr × Obj)} {ys its0 its1 : List Value} {p0 p1 : List (List Int)} (h : PairsIn tl ys (pairs its0 its1)) (h0 : All2 (PRel news) its0 p0) (h1 : All2 (PRel news) its1 p1) :
    All2 (PPair (tl ++ news)) ys (p0.flatMap fun a => p1.map fun b => (a, b)) := by
  have a1 : All2 (fun v (p : Value × Value) => ∃ q, v = .ref q ∧ (q, tupO [p.1, p.2] 0) ∈ tl) ys (pairs its0 its1) := by
    generalize pairs its0 its1 = ps at h
    induction h with
    | nil => exact .nil
    | snoc _ hm ih => exact ih.append (.cons ⟨_, rfl, hm⟩ .nil)
  have a2 : All2 (fun (p : Value × Value) (q : List Int × List Int) => PRel news p.1 q.1 ∧ PRel news p.2 q.2) (pairs its0 its1) (p0.flatMap fun a => p1.map fun b => (a, b)) :=
    h0.flatMap fun x y hxy => h1.map fun u v huv => ⟨hxy, huv⟩
  refine (a1.trans a2).mono ?_
  rintro x z ⟨y, ⟨q, e, hm⟩, h3, h4⟩
  exact ⟨q, e, y.1, y.2, List.mem_append.mpr (.inl hm), h3.mono (fun p hp => List.mem_append.mpr (.inr hp)), h4.mono (fun p hp => List.mem_append.mpr (.inr hp))⟩
section
variable {prog : Program} {w : World} {A : Around} {E : Value → Shared → Prop} {s : Shared} {h₀ : Heap} {L : Addr} {m : Str → Option Value} {env : Env}
theorem restP_ind {elt : PySem.Expr} {x x₂ : Str} {scope : Scope} {cl : List (Str × Addr)} {S : List (Addr × Obj) → Prop} {P : Nat → Value → Prop} {Fin : List Value → List (Addr × Obj) → Prop} (J : Nat → List Value → List (Addr × Obj) → Prop) (n : Nat)
    (step : ∀ i v ys news, i < n → P i v → J i ys news → ∃ (t : Addr) (ot : Obj) (v₁ v₂ : Value) (nt : Nat), v = .ref t ∧ (t, ot) ∈ news ∧ ot.cls = .type "tuple" ∧ ot.data = .seq #[v₁, v₂] nt ∧
      ∀ I oI C oC D m₂ h tk (E' : Value → Shared → Prop), NsObj oC m₂ → m₂ x = some v₁ → m₂ x₂ = some v₂ → Fr h₀ L h m → News h₀ L h ((I, oI) :: (C, oC) :: (D, lst ys) :: news) → Off3 I C D news → ((@Ne Nat I C) ∧ (@Ne Nat I D) ∧ (@Ne Nat C D)) →
      wpAny (model prog w) A (eval elt (compEnvC scope cl C env)) (CompEnd h₀ L m { s with heap := h, toks := tk } I oI C oC D (lst ys) S (fun y news' => J (i + 1) (ys ++ [y]) news')) E' { s with heap := h, toks := tk })
    (fin : ∀ ys news, J n ys news → Fin ys news) :
    ∀ k i ys news, i + k = n → J i ys news → CompRestP prog w A h₀ L m env elt x x₂ scope cl s S P Fin k i ys news
  | 0, i, ys, news, e, hj => CompRestP.zero (fin _ _ (by rw [← e]; exact hj))
  | k + 1, i, ys, news, e, hj => CompRestP.succ fun v hv => by
    obtain ⟨t, ot, v₁, v₂, nt, h1, h2, h3, h4, h5⟩ := step i v ys news (by omega) hv hj
    refine ⟨t, ot, v₁, v₂, nt, h1, h2, h3, h4, ?_⟩
    intro I oI C oC D m₂ h tk E' a1 a2 a3 a4 a5 a6 a7
    refine wpAny_mono (h5 I oI C oC D m₂ h tk E' a1 a2 a3 a4 a5 a6 a7) (fun y s₂ hc => ?_) fun _ _ e => e
    obtain ⟨h', tk', news', e1, e2, e3, e4, e5, e6⟩ := hc
    exact ⟨h', tk', news', e1, e2, e3, e4, e5, restP_ind J n step fin k (i + 1) _ _ (by omega) e6⟩
theorem one_comp {elt iter : PySem.Expr} {x0 x1 : Str} {p0 p1 tp : Pos} {tk} {scope : Scope} {cl : List (Str × Addr)} {pos : Pos} {D : Addr} {ys : List Value} {nD : Nat} {ps : List (List Int × List Int)} {news : List (Addr × Obj)} {Q : Value → Shared → Prop} (f : List Int × List Int → List Int)
    (hh : A.handled = none) (F : Fr h₀ L s.heap m) (N : News h₀ L s.heap news) (hm : (D, listOf ys.toArray nD) ∈ news) (hall : All2 (PPair news) ys ps) (hsz : ys.length ≤ 100)
    (hclos : closureFor scope env = pure cl) (hcell : ∀ y ∈ scope.names, y.2 ≠ .cell) (hkind : scope.kind = .function)
    (hnames : ∀ y ∈ scope.names, y.2 = .local → scope.names.lookup y.1 = some .local) (hx : scope.names.lookup x0 = some .local) (hx₂ : scope.names.lookup x1 = some .local) (hxx : x0 ≠ x1)
    (hi : ∀ (Q : Value → Shared → Prop), Q (.ref D) s → wpAny (model prog w) A (eval iter env) Q E s)
    (helt : ∀ (C : Addr) (m2 : Str → Option Value) (s : Shared) (nw : List (Addr × Obj)) (a b : Addr) (va vb : List Value) (n1 n2 : Nat) (p : List Int × List Int) (Q E : Value → Shared → Prop), Fr h₀ L s.heap m → News h₀ L s.heap nw → (∀ p ∈ news, p ∈ nw) → s.heap.Ns C m2 → m2 x0 = some (.ref a) → m2 x1 = some (.ref b) →
      (a, listOf va.toArray n1) ∈ nw → (b, listOf vb.toArray n2) ∈ nw → p ∈ ps → IntsAre va p.1 → IntsAre vb p.2 →
      (∀ h' q vs n tk, Fr h₀ L h' m → News h₀ L h' ((q, listOf (List.toArray vs) n) :: nw) → IntsAre vs (f p) → (∀ p ∈ nw, p.1 < q) → Q (.ref q) { s with heap := h', toks := tk }) → wpAny (model prog w) A (eval elt (compEnvC scope cl C env)) Q E s)
    (hQ : ∀ D' h tk ys' own, Fr h₀ L h m → News h₀ L h ((D', lst ys') :: (own ++ news)) → (∀ p ∈ own ++ news, p.1 ≠ D') → (∀ q ∈ news, ∀ p ∈ own, q.1 < p.1) → All2 (PRel own) ys' (ps.map f) → Q (.ref D') { s with heap := h, toks := tk })
    (hs : ∀ x, foldedSetIterable iter env x = pure x := by intro _; rfl) :
    wpAny (model prog w) A (eval (.ListComp elt [⟨.Tuple [.Name x0 p0, .Name x1 p1] tk tp, iter, [], 0⟩] scope pos) env) Q E s := by
  refine ListComp_P (F₀ := F) hclos hcell hkind hnames hx hx₂ hxx (hi _ ?_) hs
  have hlen := hall.length
  refine SrcLP.ledger hh F N hm (by rw [List.size_toArray]; unfold sizeLine; omega) fun g => ?_
  refine restP_ind (fun i ys' nw => ∃ own, nw = own ++ news ∧ (∀ q ∈ news, ∀ p ∈ own, q.1 < p.1) ∧ All2 (PRel own) ys' ((ps.take i).map f)) ys.toArray.size ?_ ?_ _ 0 _ _ (by omega) ⟨[], rfl, (fun _ _ _ h => nomatch h), .nil⟩
  · rintro i v ys' nw hlt hv ⟨own, rfl, ho, ha⟩
    obtain ⟨p, hp, q, rfl, va, vb, hq, ⟨a, vsa, n1, rfl, ma, ia⟩, ⟨b, vsb, n2, rfl, mb, ib⟩⟩ := hall.get (i := i) (x := v) (by simpa using hv)
    refine ⟨q, _, .ref a, .ref b, 0, rfl, List.mem_append.mpr (.inr hq), rfl, rfl, ?_⟩
    intro I oI C oC D' m₂ h tk' E' hC h1 h2 F' N' off ne
    have hCns : h.Ns C m₂ := hC.ns (N' _ (.tail _ (.head _))).1
    refine helt C m₂ _ _ a b vsa vsb n1 n2 p _ _ F' N' (fun p hp => .tail _ (.tail _ (.tail _ (List.mem_append.mpr (.inr hp))))) hCns h1 h2 (.tail _ (.tail _ (.tail _ (List.mem_append.mpr (.inr ma))))) (.tail _ (.tail _ (.tail _ (List.mem_append.mpr (.inr mb))))) (List.mem_of_getElem? hp) ia ib ?_
    intro h' q' vs n tk2 F2 N2 i2 l2
    refine CompEnd.intro F2 N2 ((q', listOf vs.toArray n) :: (own ++ news)) ?_ ?_ ?_ ?_
    · intro p hp
      simp only [List.mem_cons] at hp ⊢
      rcases hp with h | h | h | h | h
      · exact .inr (.inl h)
      · exact .inr (.inr (.inl h))
      · exact .inr (.inr (.inr (.inl h)))
      · exact .inl h
      · exact .inr (.inr (.inr (.inr h)))
    · refine Off3.of fun p hp => ?_
      rcases List.mem_cons.mp hp with rfl | hp
      · exact ⟨Nat.ne_of_gt (l2 _ (.head _)), Nat.ne_of_gt (l2 _ (.tail _ (.head _))), Nat.ne_of_gt (l2 _ (.tail _ (.tail _ (.head _))))⟩
      · exact off.mem p hp
    · exact .inr ⟨_, .tail _ (List.mem_append.mpr (.inr hm)), rfl, _, rfl⟩
    · refine ⟨(q', listOf vs.toArray n) :: own, rfl, ?_, ?_⟩
      · intro q hq p hp
        rcases List.mem_cons.mp hp with rfl | hp
        · exact l2 q (.tail _ (.tail _ (.tail _ (List.mem_append.mpr (.inr hq)))))
        · exact ho q hq p hp
      · have e : (ps.take (i + 1)).map f = (ps.take i).map f ++ [f p] := by rw [List.take_add_one, hp, List.map_append]; rfl
        rw [e]
        exact (ha.mono fun x y hxy => hxy.mono fun p hp => .tail _ hp).append (.cons ⟨q', vs, n, rfl, .head _, i2⟩ .nil)
  · rintro ys' nw ⟨own, rfl, ho, ha⟩
    intro D' h tk' F' N' off
    rw [List.size_toArray, hlen, List.take_length] at ha
    exact hQ D' h tk' ys' own F' N' (fun p hp => by
      have : ∀ {l : List (Addr × Obj)}, Off1 D' l → ∀ p ∈ l, p.1 ≠ D' := by
        intro l
        induction l with
        | nil => intro _ p hp; nomatch hp
        | cons x r ih => intro h p hp; rcases List.mem_cons.mp hp with rfl | hp; exact h.1; exact ih h.2 p hp
      exact this off p hp) ho ha
theorem add2 {l b : Addr} {vs ws : List Value} {n1 n2 : Nat} {news : List (Addr × Obj)} {Q : Value → Shared → Prop} (F : Fr h₀ L s.heap m) (N : News h₀ L s.heap news) (h1 : (l, listOf vs.toArray n1) ∈ news) (h2 : (b, listOf ws.toArray n2) ∈ news) (hsz : vs.length + ws.length ≤ 10000)
    (h : ∀ h', Fr h₀ L h' m → News h₀ L h' ((s.heap.objs.size, listOf (vs ++ ws).toArray 0) :: news) → (∀ p ∈ news, p.1 < s.heap.objs.size) → Q (.ref s.heap.objs.size) { s with heap := h' }) :
    wpAny (model prog w) A (binaryOp .Add (.ref l) (.ref b)) Q E s :=
  add_lists F N ⟨_, (N _ h1).1, rfl, _, rfl⟩ ⟨_, (N _ h2).1, rfl, _, rfl⟩ (fun h' F' N' => h h' F' N' fun p hp => Heap.lt_size (N p hp).1) (by unfold sizeLine; omega)
theorem new1 {vs : List Value} {news : List (Addr × Obj)} {Q : Value → Shared → Prop} (F : Fr h₀ L s.heap m) (N : News h₀ L s.heap news) (hsz : vs.length ≤ 100)
    (h : ∀ h', Fr h₀ L h' m → News h₀ L h' ((s.heap.objs.size, listOf vs.toArray 0) :: news) → (∀ p ∈ news, p.1 < s.heap.objs.size) → Q (.ref s.heap.objs.size) { s with heap := h' }) :
    wpAny (model prog w) A (newList vs) Q E s := newList_N (hsz := by unfold sizeLine; omega) F N fun h' F' N' => h h' F' N' fun p hp => Heap.lt_size (N p hp).1
theorem News.of_sub {h₀ h : Heap} {L : Addr} {xs ys : List (Addr × Obj)} (N : News h₀ L h ys) (hs : ∀ p ∈ xs, p ∈ ys) : News h₀ L h xs := fun p hp => N p (hs p hp)
theorem elt_add {x y : Str} {e : PySem.Expr} {px py p1 p2 p3 : Pos} {scope : Scope} {cl : List (Str × Addr)} {C a b : Addr} {va vb : List Value} {n1 n2 : Nat} {i : Int} {pa pb : List Int} {nw : List (Addr × Obj)} {m2 : Str → Option Value} {Q : Value → Shared → Prop}
    (F : Fr h₀ L s.heap m) (N : News h₀ L s.heap nw) (hn : s.heap.Ns C m2) (ha : m2 x = some (.ref a)) (hb : m2 y = some (.ref b)) (h1 : (a, listOf va.toArray n1) ∈ nw) (h2 : (b, listOf vb.toArray n2) ∈ nw) (ia : IntsAre va pa) (ib : IntsAre vb pb) (hsz : pa.length + pb.length ≤ 1000)
    (he : ∀ (s : Shared) (Q : Value → Shared → Prop), Fr h₀ L s.heap m → News h₀ L s.heap nw → (∀ t k, Q (.int i t) { s with toks := k }) → wpAny (model prog w) A (eval e (compEnvC scope cl C env)) Q E s)
    (hQ : ∀ h' q vs n tk, Fr h₀ L h' m → News h₀ L h' ((q, listOf (List.toArray vs) n) :: nw) → IntsAre vs (pa ++ pb ++ [i]) → (∀ p ∈ nw, p.1 < q) → Q (.ref q) { s with heap := h', toks := tk })
    (hk : (compEnvC scope cl C env).scope.kind = .function) (hlx : (compEnvC scope cl C env).kindOf x = some .local) (hly : (compEnvC scope cl C env).kindOf y = some .local) (hdx : (x == ("__debug__" : Str)) = false) (hdy : (y == ("__debug__" : Str)) = false)
    (hst : starEach [e] (compEnvC scope cl C env) = (false, eval e (compEnvC scope cl C env)) :: starEach [] (compEnvC scope cl C env)) :
    wpAny (model prog w) A (eval (.BinOp (.BinOp (.Name x px) .Add (.Name y py) p1) .Add (.List [e] p2) p3) (compEnvC scope cl C env)) Q E s := by
  have l1 := ia.length
  have l2 := ib.length
  refine wpAny_BinOp (wpAny_BinOp (ldVarK hn ha (ldVarK hn hb (add2 F N h1 h2 (by omega) fun h' F1 N1 q1 => ?_) hk hly hdy) hk hlx hdx))
  refine List_ (spliced_more (he _ _ F1 (News.of_sub N1 fun _ hp => .tail _ hp) fun t k => spliced_none (new1 F1 N1 (by simp) fun h2 F2 N2 q2 => ?_)) hst)
  refine add2 F2 N2 (.tail _ (.head _)) (.head _) (by simp; omega) fun h3 F3 N3 q3 => ?_
  have hi : IntsAre (va ++ vb ++ [.int i t]) (pa ++ pb ++ [i]) := (ia.append ib).append (.cons _ _ .nil)
  exact hQ _ _ (va ++ vb ++ [.int i t]) 0 _ F3 (News.of_sub N3 fun p hp => by
    rcases List.mem_cons.mp hp with rfl | hp
    · exact .head _
    · exact .tail _ (.tail _ (.tail _ hp))) hi fun p hp => q3 p (.tail _ (.tail _ hp))
theorem fin_progs {eltA eltB iterA iterB : PySem.Expr} {x0 x1 : Str} {p0 p1 tp q0 q1 tq : Pos} {tk tk'} {scA scB : Scope} {clA clB : List (Str × Addr)} {posA posB bpos : Pos} {D : Addr} {ys : List Value} {nD : Nat} {ps : List (List Int × List Int)} {news : List (Addr × Obj)} {Q : Value → Shared → Prop} (fA fB : List Int × List Int → List Int)
    (hh : A.handled = none) (F : Fr h₀ L s.heap m) (N : News h₀ L s.heap news) (hm : (D, listOf ys.toArray nD) ∈ news) (hall : All2 (PPair news) ys ps) (hsz : ys.length ≤ 100) (hxx : x0 ≠ x1)
    (hclosA : closureFor scA env = pure clA) (hcellA : ∀ y ∈ scA.names, y.2 ≠ .cell) (hkindA : scA.kind = .function) (hnamesA : ∀ y ∈ scA.names, y.2 = .local → scA.names.lookup y.1 = some .local) (hxA : scA.names.lookup x0 = some .local) (hyA : scA.names.lookup x1 = some .local)
    (hclosB : closureFor scB env = pure clB) (hcellB : ∀ y ∈ scB.names, y.2 ≠ .cell) (hkindB : scB.kind = .function) (hnamesB : ∀ y ∈ scB.names, y.2 = .local → scB.names.lookup y.1 = some .local) (hxB : scB.names.lookup x0 = some .local) (hyB : scB.names.lookup x1 = some .local)
    (hiA : ∀ (s : Shared) (Q : Value → Shared → Prop), Fr h₀ L s.heap m → Q (.ref D) s → wpAny (model prog w) A (eval iterA env) Q E s)
    (hiB : ∀ (s : Shared) (Q : Value → Shared → Prop), Fr h₀ L s.heap m → Q (.ref D) s → wpAny (model prog w) A (eval iterB env) Q E s)
    (hsA : ∀ x, foldedSetIterable iterA env x = pure x) (hsB : ∀ x, foldedSetIterable iterB env x = pure x)
    (heltA : ∀ (C : Addr) (m2 : Str → Option Value) (s : Shared) (nw : List (Addr × Obj)) (a b : Addr) (va vb : List Value) (n1 n2 : Nat) (p : List Int × List Int) (Q E : Value → Shared → Prop), Fr h₀ L s.heap m → News h₀ L s.heap nw → (∀ p ∈ news, p ∈ nw) → s.heap.Ns C m2 → m2 x0 = some (.ref a) → m2 x1 = some (.ref b) →
      (a, listOf va.toArray n1) ∈ nw → (b, listOf vb.toArray n2) ∈ nw → p ∈ ps → IntsAre va p.1 → IntsAre vb p.2 →
      (∀ h' q vs n tk, Fr h₀ L h' m → News h₀ L h' ((q, listOf (List.toArray vs) n) :: nw) → IntsAre vs (fA p) → (∀ p ∈ nw, p.1 < q) → Q (.ref q) { s with heap := h', toks := tk }) → wpAny (model prog w) A (eval eltA (compEnvC scA clA C env)) Q E s)
    (heltB : ∀ (C : Addr) (m2 : Str → Option Value) (s : Shared) (nw : List (Addr × Obj)) (a b : Addr) (va vb : List Value) (n1 n2 : Nat) (p : List Int × List Int) (Q E : Value → Shared → Prop), Fr h₀ L s.heap m → News h₀ L s.heap nw → (∀ p ∈ news, p ∈ nw) → s.heap.Ns C m2 → m2 x0 = some (.ref a) → m2 x1 = some (.ref b) →
      (a, listOf va.toArray n1) ∈ nw → (b, listOf vb.toArray n2) ∈ nw → p ∈ ps → IntsAre va p.1 → IntsAre vb p.2 →
      (∀ h' q vs n tk, Fr h₀ L h' m → News h₀ L h' ((q, listOf (List.toArray vs) n) :: nw) → IntsAre vs (fB p) → (∀ p ∈ nw, p.1 < q) → Q (.ref q) { s with heap := h', toks := tk }) → wpAny (model prog w) A (eval eltB (compEnvC scB clB C env)) Q E s)
    (hQ : ∀ D' h tk ys' own, Fr h₀ L h m → News h₀ L h ((D', listOf (List.toArray ys') 0) :: (own ++ news)) → (∀ p ∈ own ++ news, p.1 < D') → (∀ q ∈ news, ∀ p ∈ own, q.1 < p.1) → All2 (PRel own) ys' (ps.map fA ++ ps.map fB) → Q (.ref D') { s with heap := h, toks := tk }) :
    wpAny (model prog w) A (eval (.BinOp (.ListComp eltA [⟨.Tuple [.Name x0 p0, .Name x1 p1] tk tp, iterA, [], 0⟩] scA posA) .Add (.ListComp eltB [⟨.Tuple [.Name x0 q0, .Name x1 q1] tk' tq, iterB, [], 0⟩] scB posB) bpos) env) Q E s := by
  have hlen := hall.length
  refine wpAny_BinOp (one_comp fA hh F N hm hall hsz hclosA hcellA hkindA hnamesA hxA hyA hxx (fun Q hq => hiA _ _ F hq) heltA (fun D1 h1 tk1 ysA ownA F1 N1 off1 ord1 allA => ?_) hsA)
  have sub1 : ∀ p ∈ news, p ∈ (D1, lst ysA) :: (ownA ++ news) := fun p hp => .tail _ (List.mem_append.mpr (.inr hp))
  refine one_comp fB hh F1 N1 (sub1 _ hm) (hall.mono fun x y hxy => hxy.mono sub1) hsz hclosB hcellB hkindB hnamesB hxB hyB hxx (fun Q hq => hiB _ _ F1 hq)
    (fun C m2 s nw a b va vb n1 n2 p Q E F' N' hs' => heltB C m2 s nw a b va vb n1 n2 p Q E F' N' fun p hp => hs' p (sub1 p hp)) (fun D2 h2 tk2 ysB ownB F2 N2 off2 ord2 allB => ?_) hsB
  have e1 := allA.length
  have e2 := allB.length
  rw [List.length_map] at e1 e2
  refine add2 (vs := ysA) (ws := ysB) (n1 := ysA.length) (n2 := ysB.length) F2 N2 (.tail _ (List.mem_append.mpr (.inr (.head _)))) (.head _) (by omega) fun h3 F3 N3 l3 => ?_
  refine hQ _ h3 _ (ysA ++ ysB) (ownB ++ ownA) F3 (News.of_sub N3 fun p hp => ?_) (fun p hp => ?_) (fun q hq p hp => ?_) ((allA.mono fun x y hxy => hxy.mono fun p hp => List.mem_append.mpr (.inr hp)).append (allB.mono fun x y hxy => hxy.mono fun p hp => List.mem_append.mpr (.inl hp)))
  · rcases List.mem_cons.mp hp with rfl | hp
    · exact .head _
    · refine List.mem_cons_of_mem _ (List.mem_cons_of_mem _ ?_)
      simp only [List.mem_append, List.mem_cons] at hp ⊢
      rcases hp with (h | h) | h
      · exact .inl h
      · exact .inr (.inr (.inl h))
      · exact .inr (.inr (.inr h))
  · refine l3 p (List.mem_cons_of_mem _ ?_)
    simp only [List.mem_append, List.mem_cons] at hp ⊢
    rcases hp with (h | h) | h
    · exact .inl h
    · exact .inr (.inr (.inl h))
    · exact .inr (.inr (.inr h))
  · rcases List.mem_append.mp hp with hp | hp
    · exact ord2 q (sub1 q hq) p hp
    · exact ord1 q hq p hp
end
end

section
open PySem PySem.W PyProof.Rows PySem.Spec PySem.Calls
set_option Elab.async false
set_option maxRecDepth 100000
set_option maxHeartbeats 400000
set_option linter.all false
theorem fresh_E19 {prog : Program} {w : World} {A : Around} {E : Value → Shared → Prop} {s : Shared} {Q : Value → Shared → Prop} (h : wpAny (model prog w) A (call (.int 0 0) []) Q E s) : wpAny (model prog w) A (call (.int 0 0) []) Q E s := by
  k_with_none
  w_top off
  first | (walk1; fail) | exact h
theorem line_E19_1 : True := by
  k_with "own_my_center" => (refine' code_defC ?k1 ?k2 ?k3 ?k4 ?k5 ?kA ?kF ?kK ?k6 ?k7 ?k8 ?k9 ?kB ?kD ?_ ?c2 ?c3 ?c4; (case kA => exact rfl); (case kF => exact rfl); (case kK => assumption); (case k1 => k_asm); (case k2 => k_asm); (case k3 => k_asm); (case k4 => k_asm); (case k5 => k_asm); (case k6 => k_is); (case k7 => k_is); (case k8 => ktr_room); (case k9 => first | exact BindsTo.of_eq rfl | exact binds_K (by k_in) rfl (by k_is) rfl rfl rfl | fail "k_enter: no rule for these arguments"); (case kB => exact rfl); (case kD => decide +kernel); (case c2 => exact rfl); (case c3 => exact rfl); (case c4 => exact rfl); k_whole; intro g' L' h' tk' cells' FG' F' N' Y' B' X' T' l1; (try k_lt l1); k_cells Y'; (try simp only [List.cons_append, List.nil_append] at N'); (try dsimp only); (try k_lift B'); (try k_fold))
  trivial
theorem ne_lt {a : Addr} {l : List (Addr × Obj)} (h : ∀ p ∈ l, a < p.1) : ∀ p ∈ l, p.1 ≠ a := fun p hp => Nat.ne_of_gt (h p hp)
theorem ne_up1 {d : Addr} {l : List (Addr × Obj)} (h : AllLt d l) : ∀ p ∈ l, p.1 ≠ d + 1 := fun p hp => Nat.ne_of_lt (Nat.lt_succ_of_lt (ktn_ltOf h p hp))
theorem ne_up2 {d : Addr} {l : List (Addr × Obj)} (h : AllLt d l) : ∀ p ∈ l, p.1 ≠ d + 1 + 1 := fun p hp => Nat.ne_of_lt (Nat.lt_succ_of_lt (Nat.lt_succ_of_lt (ktn_ltOf h p hp)))
theorem ne_vp1 {d : Addr} {l : List (Addr × Obj)} (h : ∀ p ∈ l, p.1 < d) : ∀ p ∈ l, p.1 ≠ d + 1 := fun p hp => Nat.ne_of_lt (Nat.lt_succ_of_lt (h p hp))
theorem ne_vp2 {d : Addr} {l : List (Addr × Obj)} (h : ∀ p ∈ l, p.1 < d) : ∀ p ∈ l, p.1 ≠ d + 1 + 1 := fun p hp => Nat.ne_of_lt (Nat.lt_succ_of_lt (Nat.lt_succ_of_lt (h p hp)))
theorem line_E19_2 : True := by
  k_with "own_k_all" => (first | assumption | exact ne_vp1 (by assumption) | exact ne_vp2 (by assumption) | exact ne_up1 (by assumption) | exact ne_up2 (by assumption))
  trivial
/-- the programs of a tree -/
noncomputable def Tr.progs : Tr → List (List Int)
  | .leaf k => [[256 + (k : Int)]]
  | .node w l r =>
    let pairs := l.progs.flatMap fun a => r.progs.map fun b => (a, b)
    (pairs.map fun p => p.1 ++ p.2 ++ [14 + (w : Int)]) ++ (pairs.map fun p => p.2 ++ p.1 ++ [253 + (w : Int)])
inductive ProgsIn (news : List (Addr × Obj)) : List Value → List (List Int) → Prop where
  | nil : ProgsIn news [] []
  | cons {a : Addr} {vs rs : List Value} {ns : List Int} {pss : List (List Int)} {n : Nat} : (a, listOf vs.toArray n) ∈ news → IntsAre vs ns → ProgsIn news rs pss → ProgsIn news (.ref a :: rs) (ns :: pss)
inductive ProgsOut (news : List (Addr × Obj)) : Value → Tr → Prop where
  | mk {a : Addr} {rs : List Value} {n : Nat} {t : Tr} : (a, listOf rs.toArray n) ∈ news → ProgsIn news rs t.progs → ProgsOut news (.ref a) t
inductive TreeArg2 (news : List (Addr × Obj)) : List Value → Tr → Prop where
  | mk {v : Value} {t : Tr} : TreeIn news v t → TreeArg2 news [v] t
noncomputable abbrev progsT : ToldN Tr where
  Rel := TreeArg2
  Ok := fun t => t.Good ∧ t.leaves ≤ 5
  size := Tr.size
  Tl := ktnAny
  Out := ProgsOut
theorem mem_drop2 {A B : Addr × Obj} {rest : List (Addr × Obj)} {x y : Option Value} {a : Addr} {vs : Array Value} {n : Nat} (hA : A.2.data = .cell x) (hB : B.2.data = .cell y) (h : (a, listOf vs n) ∈ A :: B :: rest) : (a, listOf vs n) ∈ rest := by
  rcases List.mem_cons.mp h with rfl | h
  · cases hA
  · rcases List.mem_cons.mp h with rfl | h
    · cases hB
    · exact h
theorem ProgsIn.drop2 {A B : Addr × Obj} {rest : List (Addr × Obj)} {x y : Option Value} {rs : List Value} {pss : List (List Int)} (hA : A.2.data = .cell x) (hB : B.2.data = .cell y) (h : ProgsIn (A :: B :: rest) rs pss) : ProgsIn rest rs pss := by
  induction h with
  | nil => exact .nil
  | cons hm hi _ ih => exact .cons (mem_drop2 hA hB hm) hi ih
theorem leaf_fin {g h : Heap} {L : Addr} {a b c d : Addr × Obj} {news : List (Addr × Obj)} (N : News g L h (a :: b :: c :: d :: news)) : News g L h (news ++ [a, b]) := fun p hp => N p (by
  rcases List.mem_append.mp hp with hp | hp
  · exact .tail _ (.tail _ (.tail _ (.tail _ hp)))
  · rcases List.mem_cons.mp hp with rfl | hp
    · exact .head _
    · rw [List.mem_singleton.mp hp]; exact .tail _ (.head _))
theorem progs_len : ∀ t : Tr, t.progs.length * 2 = 2 ^ t.leaves
  | .leaf k => rfl
  | .node w l r => by
    have h1 := progs_len l
    have h2 := progs_len r
    show (List.length ((_ : List (List Int)) ++ _)) * 2 = 2 ^ (l.leaves + r.leaves)
    rw [Nat.pow_add, ← h1, ← h2, List.length_append, List.length_map, List.length_map]
    have e : ∀ (xs ys : List (List Int)), (xs.flatMap fun a => ys.map fun b => (a, b)).length = xs.length * ys.length := by
      intro xs ys
      induction xs with
      | nil => simp
      | cons x r ih => rw [List.flatMap_cons, List.length_append, List.length_map, ih, List.length_cons, Nat.add_mul]; omega
    rw [e]
    have : l.progs.length * 2 * (r.progs.length * 2) = (l.progs.length * r.progs.length) * 4 := by
      rw [Nat.mul_assoc, Nat.mul_left_comm 2, ← Nat.mul_assoc]
    rw [this]; omega
theorem progs_small {t : Tr} (h : t.leaves ≤ 5) : t.progs.length ≤ 16 := by
  have h1 := progs_len t
  have h2 : 2 ^ t.leaves ≤ 2 ^ 5 := Nat.pow_le_pow_right (by decide) h
  omega
theorem progs_each : ∀ (t : Tr), ∀ p ∈ t.progs, p.length + 1 = 2 * t.leaves
  | .leaf k, p, h => by rw [List.mem_singleton.mp h]; rfl
  | .node w l r, p, h => by
    simp only [Tr.progs, List.mem_append, List.mem_map, List.mem_flatMap] at h
    rcases h with ⟨q, ⟨a, ha, b, hb, rfl⟩, rfl⟩ | ⟨q, ⟨a, ha, b, hb, rfl⟩, rfl⟩
    all_goals
      have h1 := progs_each l a ha
      have h2 := progs_each r b hb
      simp only [List.length_append, List.length_singleton, Tr.leaves]
      omega
theorem ProgsIn.all {news news' : List (Addr × Obj)} {rs : List Value} {pss : List (List Int)} (h : ProgsIn news rs pss) (hs : ∀ p ∈ news, p ∈ news') : All2 (PRel news') rs pss := by
  induction h with
  | nil => exact .nil
  | cons hm hi _ ih => exact .cons ⟨_, _, _, rfl, hs _ hm, hi⟩ ih
theorem ProgsIn.of {news : List (Addr × Obj)} {rs : List Value} {pss : List (List Int)} (h : All2 (PRel news) rs pss) : ProgsIn news rs pss := by
  induction h with
  | nil => exact .nil
  | cons hr _ ih => obtain ⟨a, vs, n, rfl, hm, hi⟩ := hr; exact .cons hm hi ih
theorem ProgsIn.len {news : List (Addr × Obj)} {rs : List Value} {pss : List (List Int)} (h : ProgsIn news rs pss) : rs.length = pss.length := by
  induction h with
  | nil => rfl
  | cons _ _ _ ih => simp [ih]
theorem hps_of {h₀ h : Heap} {L D5 : Addr} {c1 c2 : Addr × Obj} {news tR tL tl5 : List (Addr × Obj)} {ys5 rs2 rsR : List Value} {l r : Tr} (_N : News h₀ L h ((D5, LCg.lst ys5) :: (tl5 ++ (c1 :: c2 :: (news ++ (tR ++ tL)))))) (P5 : PairsIn tl5 ys5 (pairs rs2 rsR)) (hp : ProgsIn (news ++ (tR ++ tL)) rs2 l.progs) (hpR : ProgsIn (news ++ tR) rsR r.progs) :
    All2 (PPair ((D5, LCg.lst ys5) :: (tl5 ++ (c1 :: c2 :: (news ++ (tR ++ tL)))))) ys5 (l.progs.flatMap fun a => r.progs.map fun b => (a, b)) := by
  refine (pairs_all (news := c1 :: c2 :: (news ++ (tR ++ tL))) P5 (hp.all fun p hp => .tail _ (.tail _ hp)) (hpR.all fun p hp => .tail _ (.tail _ ?_))).mono fun x y hxy => hxy.mono fun p hp => .tail _ hp
  show p ∈ news ++ (tR ++ tL)
  rcases List.mem_append.mp hp with hp | hp
  · exact List.mem_append.mpr (.inl hp)
  · exact List.mem_append.mpr (.inr (List.mem_append.mpr (.inl hp)))
theorem in5 {p a c1 c2 : Addr × Obj} {tl5 news t : List (Addr × Obj)} (h : p ∈ news) : p ∈ a :: (tl5 ++ (c1 :: c2 :: (news ++ t))) := .tail _ (List.mem_append.mpr (.inr (.tail _ (.tail _ (List.mem_append.mpr (.inl h))))))
theorem in5c {a c1 c2 : Addr × Obj} {tl5 t : List (Addr × Obj)} : c2 ∈ a :: (tl5 ++ (c1 :: c2 :: t)) := .tail _ (List.mem_append.mpr (.inr (.tail _ (.head _))))
theorem progs_fin {g h : Heap} {L : Addr} {x c1 c2 a : Addr × Obj} {own tl5 news t : List (Addr × Obj)} (N : News g L h (x :: (own ++ (a :: (tl5 ++ (c1 :: c2 :: (news ++ t))))))) : News g L h (news ++ (x :: own)) := fun p hp => N p (by
  rcases List.mem_append.mp hp with hp | hp
  · exact .tail _ (List.mem_append.mpr (.inr (in5 hp)))
  · rcases List.mem_cons.mp hp with rfl | hp
    · exact .head _
    · exact .tail _ (List.mem_append.mpr (.inl hp)))
theorem ps_mem {l r : Tr} {p : List Int × List Int} (h : p ∈ l.progs.flatMap fun a => r.progs.map fun b => (a, b)) : p.1.length + 1 = 2 * l.leaves ∧ p.2.length + 1 = 2 * r.leaves := by
  simp only [List.mem_flatMap, List.mem_map] at h
  obtain ⟨a, ha, b, hb, rfl⟩ := h
  exact ⟨progs_each l a ha, progs_each r b hb⟩
theorem ps_len (w : Nat) (l r : Tr) : (Tr.node w l r).progs.length = 2 * (l.progs.flatMap fun a => r.progs.map fun b => (a, b)).length := by
  show (List.length ((_ : List (List Int)) ++ _)) = _
  rw [List.length_append, List.length_map, List.length_map]; omega
theorem progs_ct (w : World) (mean : ExcName → Option Value) (mg mb : Str → Option Value) : ∀ d, TellsN PySem.Challenge.rw_xn0010_01.row.prog w (hd.heap_1_39 w.params) hd.view_1_40 LS mean mg mb 209 progsT d := by
  w_on
  k_fill
  refine tellsN_of fun d IH => ?_
  unfold TellsN
  intro dp un gd cn cs a ccd cl outer A₀ base h₀ L m news s vs Q E B F X N T hk hR hok hd hu hret
  obtain @⟨v, t, hR⟩ := hR
  obtain _ | @⟨a1, w1, t1, vl, vr, l, r, n1, hm, hl, hr⟩ := hR
  · refine wpAny_call ?_
    k_dflt (k_extra "own_my_center")
    refine wp_never ?_
    k_steps
    refine hret _ [(_, listOf #[.ref _] 0), (_, listOf #[.int _ _] 0)] _ _ (by k_asm) (leaf_fin (by k_asm)) ?_ trivial (.mk (List.mem_append.mpr (.inr (.head _))) (.cons (vs := [_]) (List.mem_append.mpr (.inr (.tail _ (.head _)))) (.cons _ _ .nil) .nil))
    intro q hq p hp
    rcases List.mem_cons.mp hp with rfl | hp
    · exact ktn_ltOf (by assumption : _ ∧ _ ∧ _ ∧ AllLt _ news).2.2.2 q hq
    · rw [List.mem_singleton.mp hp]; exact ktn_ltOf (by assumption : _ ∧ _ ∧ AllLt _ news).2.2 q hq
  · have hlv := hok.2
    simp only [Tr.leaves] at hlv
    have lp1 := leaves_pos l
    have lp2 := leaves_pos r
    have ok1 : l.Good ∧ l.leaves ≤ 5 := ⟨tg_l hok.1, by omega⟩
    have ok2 : r.Good ∧ r.leaves ≤ 5 := ⟨tg_r hok.1, by omega⟩
    have hs1 := l.size_pos
    have hs2 := r.size_pos
    dsimp only [progsT] at hd hu
    simp only [Tr.size] at hd hu
    have r1 : dp + 1 + l.size < recursionLimit := by omega
    have r2 : dp + 1 + r.size < recursionLimit := by omega
    have u1 : un + 3 + 8 * l.size < cLine := by omega
    have u2 : un + 3 + 8 * r.size < cLine := by omega
    have z1 : progsT.size l < progsT.size (.node w1 l r) := by show l.size < l.size + r.size + 1; omega
    have z2 : progsT.size r < progsT.size (.node w1 l r) := by show r.size < l.size + r.size + 1; omega
    refine wpAny_call ?_
    k_dflt (k_extra "own_my_center")
    refine wp_never ?_
    rename Obj.data _ = Data.cell _ => dT0
    have dT : _ = Data.cell (some (Value.ref a1)) := dT0
    k_with "call ref" => ((with_reducible show wpAny _ _ (call (Value.ref 209) _) _ _ _); k_dflt (refine tellsN_use (c := progsT) (by k_asm) (by k_asm) (by k_asm) (by k_asm) (by k_asm) (by first | exact rfl | assumption) (by first | (exact .mk (TreeIn.mono hl (fun _ hp => by k_mem))) | fail "rel") (IH l z1) (by first | (exact ok1) | fail "ok") (by exact r1) (by exact u1) ?_); intro r9 tl9 h9 tk9 F9 N9 hl9 ht9 ho9; (try dsimp only); obtain @⟨a2, rs2, n2, t2, hm2, hp2⟩ := ho9; (try simp only [List.append_assoc, List.cons_append] at N9 hm2 hp2); have ne9 := ne_lt (hl9 _ (List.Mem.head _)); have ne9' := ne_lt (hl9 _ (List.Mem.tail _ (List.Mem.head _))); dsimp only at ne9 ne9'; have hm3 := mem_drop2 (by assumption) (by assumption) hm2; have hp3 := ProgsIn.drop2 (by assumption) (by assumption) hp2; clear hm2 hp2; have hlA := Nat.le_trans (Nat.le_trans (Nat.le_of_eq hp3.len) (progs_small ok1.2)) (by decide : 16 ≤ 20))
    k_with "call ref" => ((with_reducible show wpAny _ _ (call (Value.ref 209) _) _ _ _); k_dflt (refine tellsN_use (c := progsT) (by k_asm) (by k_asm) (by k_asm) (by k_asm) (by k_asm) (by first | exact rfl | assumption) (by first | (exact .mk (TreeIn.mono hr (fun _ hp => by k_mem))) | fail "rel") (IH r z2) (by first | (exact ok2) | fail "ok") (by exact r2) (by exact u2) ?_); intro r9 tl9 h9 tk9 F9 N9 hl9 ht9 ho9; (try dsimp only); obtain @⟨a2, rs2, n2, t2, hm2, hp2⟩ := ho9; (try simp only [List.append_assoc, List.cons_append] at N9 hm2 hp2); have ne9 := ne_lt (hl9 _ (List.Mem.head _)); have ne9' := ne_lt (hl9 _ (List.Mem.tail _ (List.Mem.head _))); dsimp only at ne9 ne9'; have hm3 := mem_drop2 (by assumption) (by assumption) hm2; have hp3 := ProgsIn.drop2 (by assumption) (by assumption) hp2; clear hm2 hp2; have hlB := Nat.le_trans (Nat.le_trans (Nat.le_of_eq hp3.len) (progs_small ok2.2)) (by decide : 16 ≤ 20))
    k_steps
    rename News _ _ _ (_ :: _ :: (news ++ tl9)) => NN
    rename Obj.data _ = Data.cell (some (Value.ref a2)) => dR
    have hmR := hm3
    have hpR := hp3
    k_dflt (refine Assign_pairs (ax1 := a2) (its1 := rs2) (n1 := n2) (x0 := "left") (x1 := "right") (y := "pairs") (by k_asm) rfl (by with_unfolding_all rfl) (by with_unfolding_all rfl) (by decide) (by rfl) (by decide) (by rfl) (by rfl) (by decide) (by rfl) (by rfl) (by rfl) (by rfl) (by intro C x; with_unfolding_all rfl) ?_ ?_)
    · intro C A a s m' b Q E hn ha hb hq
      refine wpAny_Tuple ?_
      k_with "eval Name" => (k_dflt (first | refine ldVarK hn ha ?_ | refine ldVarK hn hb ?_))
      k_steps
      exact hq _
    · k_with "Exists" => (
        k_dflt refine ⟨a2, rs2, n2, _, rfl, (by k_asm), N9, List.mem_cons_of_mem _ (List.mem_cons_of_mem _ hm3), List.mem_cons_of_mem _ (List.mem_cons_of_mem _ (by simp only [List.mem_append] at hmR ⊢; exact hmR.elim (fun h => .inl h) (fun h => .inr (.inl h)))), hlA, hlB, fun C A s Q E N hq => lcf_cell N rfl (.head _) dR hq rfl rfl, ?_⟩
        intro D5 h5 tk5 ys5 tl5 F5 N5 off5 P5)
      k_with "exec Return some" => (
        have hps := hps_of N5 P5 hp3 hpR
        have hpl := hps.length
        have hpl2 := ps_len w1 l r
        have hpl3 := progs_small (t := .node w1 l r) hok.2
        have hpl4 : ys5.length ≤ 100 := (by omega)
        refine wpAny_Return_some ?_
        k_dflt (refine fin_progs (D := D5) (fun p => p.1 ++ p.2 ++ [14 + (w1 : Int)]) (fun p => p.2 ++ p.1 ++ [253 + (w1 : Int)]) rfl F5 N5 (.head _) hps hpl4 (by decide) (by with_unfolding_all rfl) (by decide) (by rfl) (by decide) (by rfl) (by rfl) (by with_unfolding_all rfl) (by decide) (by rfl) (by decide) (by rfl) (by rfl) (fun s Q F hq => wpAny_Name (wpAny_loadName_local (by rfl) (by rfl) F.ns (if_pos rfl) hq) (by decide)) (fun s Q F hq => wpAny_Name (wpAny_loadName_local (by rfl) (by rfl) F.ns (if_pos rfl) hq) (by decide)) (by intro x; with_unfolding_all rfl) (by intro x; with_unfolding_all rfl) ?hA ?hB ?hC)
        case hA =>
          intro C m2 s nw a b va vb nn1 nn2 p Q E F N hs hn ha hb h1 h2 hp ia ib hq
          have hcm := hs _ in5c
          have htm := hs _ (in5 hm)
          have hpp := ps_mem hp
          k_dflt (refine elt_add F N hn ha hb h1 h2 ia ib (by omega) (fun s Q F N hq => ?_) hq (by rfl) (by rfl) (by rfl) (by decide) (by decide) (by rfl))
          k_with "eval Name" => (k_dflt (refine lcf_cell N rfl hcm dT ?_ rfl rfl))
          k_steps
          exact hq _ _
        case hB =>
          intro C m2 s nw a b va vb nn1 nn2 p Q E F N hs hn ha hb h1 h2 hp ia ib hq
          have hcm := hs _ in5c
          have htm := hs _ (in5 hm)
          have hpp := ps_mem hp
          k_dflt (refine elt_add (i := 253 + (w1 : Int)) F N hn hb ha h2 h1 ib ia (by omega) (fun s Q F N hq => ?_) hq (by rfl) (by rfl) (by rfl) (by decide) (by decide) (by rfl))
          k_with "eval Name" => (k_dflt (refine lcf_cell N rfl hcm dT ?_ rfl rfl))
          k_steps
          (have hq2 : ∀ (t : Tok) (k : Nat), Q (.int (14 + (w1 : Int) + 239) t) { s with toks := k } := (by rw [show (14 : Int) + (w1 : Int) + 239 = 253 + (w1 : Int) from (by omega)]; exact hq); exact hq2 _ _)
        intro D6 h6 tk6 ys6 own6 F6 N6 lt6 ord6 all6)
      k_steps
      refine hret _ _ _ _ (by k_asm) (progs_fin (by k_asm)) ?_ trivial (.mk (List.mem_append.mpr (.inr (.head _))) (ProgsIn.of (all6.mono fun x y hxy => hxy.mono fun p hp => List.mem_append.mpr (.inr (.tail _ hp)))))
      intro q hq p hp
      rcases List.mem_cons.mp hp with rfl | hp
      · exact lt6 q (List.mem_append.mpr (.inr (in5 hq)))
      · exact ord6 q (in5 hq) p hp
end

section
open PySem PySem.W PyProof.Rows PySem.Spec PySem.Calls
set_option Elab.async false
set_option linter.all false
/-- the code of a join's sign -/
noncomputable def sgc (w : Nat) : Nat := if w = 0 then 43 else if w = 1 then 45 else 42
/-- the tree's text -/
noncomputable def Tr.txt : Tr → List Nat
  | .leaf k => [66 + k]
  | .node w l r => 40 :: (l.txt ++ sgc w :: (r.txt ++ [41]))
noncomputable def symOf (c : Nat) : Int := if 65 ≤ c ∧ c ≤ 80 then 190 + (c : Int) else if c = 40 then 7 else if c = 41 then 8 else if c = 43 then 14 else if c = 45 then 15 else 16
noncomputable def depOf (c : Nat) (d : Int) : Int := d + (if c = 40 then 1 else 0) - (if c = 41 then 1 else 0)
noncomputable def scan : List Nat → Int → List (Int × Int)
  | [], _ => []
  | c :: r, d => (symOf c, depOf c d) :: scan r (depOf c d)
theorem scan_txt : ∀ (t : Tr) (_ : t.Good) (d : Int) (rest : List Nat), scan (t.txt ++ rest) d = t.toks d ++ scan rest d
  | .leaf k, h, d, rest => by
    have hk : k < 15 := h
    have e1 : symOf (66 + k) = 256 + (k : Int) := by unfold symOf; rw [if_pos (by omega)]; omega
    have e2 : depOf (66 + k) d = d := by unfold depOf; rw [if_neg (by omega), if_neg (by omega)]; omega
    show (symOf (66 + k), depOf (66 + k) d) :: scan rest (depOf (66 + k) d) = _
    rw [e1, e2]; rfl
  | .node w l r, h, d, rest => by
    have hw : w < 3 := h.1
    have e1 : depOf 40 d = d + 1 := by unfold depOf; simp
    have e2 : depOf 41 (d + 1) = d := by unfold depOf; simp
    have e3 : symOf (sgc w) = 14 + (w : Int) := by
      rcases Nat.lt_or_ge w 1 with h | h
      · have : w = 0 := by omega
        subst this; rfl
      · rcases Nat.lt_or_ge w 2 with h | h
        · have : w = 1 := by omega
          subst this; rfl
        · have : w = 2 := by omega
          subst this; rfl
    have e4 : depOf (sgc w) (d + 1) = d + 1 := by
      unfold depOf sgc
      repeat' split
      all_goals omega
    have s1 : (Tr.node w l r).txt ++ rest = 40 :: (l.txt ++ (sgc w :: (r.txt ++ (41 :: rest)))) := by
      simp [Tr.txt]
    rw [s1]
    show (symOf 40, depOf 40 d) :: scan _ (depOf 40 d) = _
    rw [e1, scan_txt l h.2.1]
    show _ :: (_ ++ (symOf (sgc w), depOf (sgc w) (d + 1)) :: scan _ (depOf (sgc w) (d + 1))) = _
    rw [e3, e4, scan_txt r h.2.2]
    show _ :: (_ ++ _ :: (_ ++ (symOf 41, depOf 41 (d + 1)) :: scan rest (depOf 41 (d + 1)))) = _
    rw [e2]
    simp [Tr.toks, symOf]
/-- a text's signs -/
noncomputable def isLet (c : Nat) : Bool := decide (66 ≤ c ∧ c ≤ 80)
noncomputable def okC (c : Nat) : Bool := isLet c || [40, 41, 42, 43, 45].contains c
noncomputable def okP (a b : Nat) : Bool := !(isLet a && isLet b) && !(a == 42 && b == 42)
noncomputable def chain : List Nat → Bool
  | [] => true
  | [a] => okC a
  | a :: b :: r => okC a && (okP a b && chain (b :: r))
theorem chain_append : ∀ (xs ys : List Nat) (x y : Nat), chain (xs ++ [x]) = true → chain (y :: ys) = true → okP x y = true → chain (xs ++ x :: y :: ys) = true
  | [], ys, x, y, h1, h2, h3 => by
    have h1' : okC x = true := h1
    show (okC x && (okP x y && chain (y :: ys))) = true
    rw [h1', h2, h3]; rfl
  | [a], ys, x, y, h1, h2, h3 => by
    have h1' : (okC a && (okP a x && okC x)) = true := h1
    show (okC a && (okP a x && (okC x && (okP x y && chain (y :: ys))))) = true
    rw [h2, h3]
    simp only [Bool.and_true]
    exact h1'
  | a :: b :: r, ys, x, y, h1, h2, h3 => by
    have h1' : (okC a && (okP a b && chain (b :: (r ++ [x])))) = true := h1
    simp only [Bool.and_eq_true] at h1'
    show (okC a && (okP a b && chain (b :: r ++ x :: y :: ys))) = true
    rw [chain_append (b :: r) ys x y h1'.2.2 h2 h3, h1'.1, h1'.2.1]; rfl
/-- a tree's text is not empty, begins with a bracket or a letter, ends with a bracket or a letter -/
theorem txt_shape : ∀ (t : Tr) (_ : t.Good), (∃ k r, k < 15 ∧ t.txt = [66 + k] ∧ r = ([] : List Nat)) ∨ ∃ m, t.txt = 40 :: (m ++ [41])
  | .leaf k, h => .inl ⟨k, [], h, rfl, rfl⟩
  | .node w l r, h => .inr ⟨l.txt ++ sgc w :: r.txt, by simp [Tr.txt]⟩
theorem sgc_is (w : Nat) : sgc w = 43 ∨ sgc w = 45 ∨ sgc w = 42 := by
  unfold sgc
  repeat' split
  · exact .inl rfl
  · exact .inr (.inl rfl)
  · exact .inr (.inr rfl)
theorem okC_let {k : Nat} (h : k < 15) : okC (66 + k) = true := by
  have : isLet (66 + k) = true := decide_eq_true ⟨by omega, by omega⟩
  unfold okC; rw [this]; rfl
theorem okP_r {a b : Nat} (ha : a = 40 ∨ a = 41 ∨ a = 42 ∨ a = 43 ∨ a = 45 ) (hb : b ≠ 42) : okP a b = true := by
  have h1 : isLet a = false := decide_eq_false (by omega)
  have h2 : (b == 42) = false := by simpa using hb
  unfold okP; rw [h1, h2]; simp
theorem okP_l {a b : Nat} (hb : b = 40 ∨ b = 41 ∨ b = 42 ∨ b = 43 ∨ b = 45 ) (ha : a ≠ 42) : okP a b = true := by
  have h1 : isLet b = false := decide_eq_false (by omega)
  have h2 : (a == 42) = false := by simpa using ha
  unfold okP; rw [h1, h2]; simp
/-- first and last signs -/
theorem txt_ends : ∀ (t : Tr) (_ : t.Good), (∃ a r, t.txt = a :: r ∧ a ≠ 42) ∧ (∃ a r, t.txt = r ++ [a] ∧ a ≠ 42)
  | .leaf k, h => ⟨⟨66 + k, [], rfl, by omega⟩, ⟨66 + k, [], rfl, by omega⟩⟩
  | .node w l r, h => ⟨⟨40, _, rfl, by decide⟩, ⟨41, 40 :: (l.txt ++ sgc w :: r.txt), by simp [Tr.txt], by decide⟩⟩
theorem chain_txt : ∀ (t : Tr) (_ : t.Good), chain t.txt = true
  | .leaf k, h => okC_let h
  | .node w l r, h => by
    have hl := chain_txt l h.2.1
    have hr := chain_txt r h.2.2
    obtain ⟨⟨a, lr, ea, na⟩, ⟨b, lr', eb, nb⟩⟩ := txt_ends l h.2.1
    obtain ⟨⟨c, rr, ec, nc⟩, ⟨d, rr', ed, nd⟩⟩ := txt_ends r h.2.2
    have hs : sgc w = 40 ∨ sgc w = 41 ∨ sgc w = 42 ∨ sgc w = 43 ∨ sgc w = 45 := by rcases sgc_is w with h | h | h <;> omega
    -- the right side and the closing bracket
    have c1 : chain (r.txt ++ [41]) = true := by
      rw [ed]
      have := chain_append rr' [] d 41 (by rw [← ed]; exact hr) (by decide) (okP_l (by decide) nd)
      simpa using this
    have hsc : okC (sgc w) = true := by rcases sgc_is w with h | h | h <;> (rw [h]; decide)
    have c2 : chain (sgc w :: (r.txt ++ [41])) = true := by
      rw [ec] at c1 ⊢
      show (okC (sgc w) && (okP (sgc w) c && chain (c :: (rr ++ [41])))) = true
      rw [hsc, okP_r hs nc]
      exact c1
    have c3 : chain (l.txt ++ sgc w :: (r.txt ++ [41])) = true := by
      rw [eb]
      have := chain_append lr' (r.txt ++ [41]) b (sgc w) (by rw [← eb]; exact hl) c2 (okP_l hs nb)
      simpa using this
    show chain (40 :: (l.txt ++ sgc w :: (r.txt ++ [41]))) = true
    rw [ea] at c3 ⊢
    show (okC 40 && (okP 40 a && chain (a :: (lr ++ sgc w :: (r.txt ++ [41]))))) = true
    rw [okP_r (.inl rfl) na]
    show (true && (true && _)) = true
    simpa using c3
theorem txt_len : ∀ t : Tr, t.txt.length + 3 = 4 * t.leaves
  | .leaf k => rfl
  | .node w l r => by
    have h1 := txt_len l
    have h2 := txt_len r
    simp only [Tr.txt, Tr.leaves, List.length_cons, List.length_append, List.length_nil]
    omega
theorem txt_codes : ∀ (t : Tr) (_ : t.Good), ∀ c ∈ t.txt, okC c = true
  | .leaf k, h, c, hc => by
    rw [List.mem_singleton.mp hc]; exact okC_let h
  | .node w l r, h, c, hc => by
    simp only [Tr.txt, List.mem_cons, List.mem_append, List.not_mem_nil, or_false] at hc
    rcases hc with rfl | hc | rfl | hc | rfl
    · decide
    · exact txt_codes l h.2.1 c hc
    · rcases sgc_is w with h | h | h <;> (rw [h]; decide)
    · exact txt_codes r h.2.2 c hc
    · decide
/-- the leaves of a tree stand in its text -/
inductive Tr.Has : Tr → Nat → Prop
  | leaf {k : Nat} : Tr.Has (.leaf k) k
  | l {w k : Nat} {l r : Tr} : Tr.Has l k → Tr.Has (.node w l r) k
  | r {w k : Nat} {l r : Tr} : Tr.Has r k → Tr.Has (.node w l r) k
theorem has_txt {t : Tr} {k : Nat} (h : t.Has k) : 66 + k ∈ t.txt := by
  induction h with
  | leaf => exact .head _
  | l _ ih => exact .tail _ (List.mem_append.mpr (.inl ih))
  | r _ ih => exact .tail _ (List.mem_append.mpr (.inr (.tail _ (List.mem_append.mpr (.inl ih)))))
noncomputable def depEnd : List Nat → Int → Int
  | [], d => d
  | c :: r, d => depEnd r (depOf c d)
theorem scan_snoc : ∀ (pre : List Nat) (c : Nat) (d : Int), scan (pre ++ [c]) d = scan pre d ++ [(symOf c, depOf c (depEnd pre d))]
  | [], _, _ => rfl
  | a :: r, c, d => by
    show _ :: scan (r ++ [c]) _ = _ :: (scan r _ ++ _)
    rw [scan_snoc r c]; rfl
theorem depEnd_snoc : ∀ (pre : List Nat) (c : Nat) (d : Int), depEnd (pre ++ [c]) d = depOf c (depEnd pre d)
  | [], _, _ => rfl
  | a :: r, c, d => depEnd_snoc r c _
theorem scan_len : ∀ (pre : List Nat) (d : Int), (scan pre d).length = pre.length
  | [], _ => rfl
  | a :: r, d => by show (scan r _).length + 1 = r.length + 1; rw [scan_len r]
theorem chain_at : ∀ (pre : List Nat) (c : Nat) (post : List Nat), chain (pre ++ c :: post) = true → okC c = true ∧ (∀ d r, post = d :: r → okP c d = true ∧ okC d = true ∧ ∀ e r', r = e :: r' → okC e = true)
  | [], c, [], h => ⟨h, fun d r e => by cases e⟩
  | [], c, [d], h => by
    have h' : (okC c && (okP c d && okC d)) = true := h
    simp only [Bool.and_eq_true] at h'
    refine ⟨h'.1, fun d' r e => ?_⟩
    cases e
    exact ⟨h'.2.1, h'.2.2, fun e r' q => by cases q⟩
  | [], c, d :: e :: r, h => by
    have h' : (okC c && (okP c d && (okC d && (okP d e && chain (e :: r))))) = true := h
    simp only [Bool.and_eq_true] at h'
    refine ⟨h'.1, fun d' r1 q => ?_⟩
    cases q
    refine ⟨h'.2.1, h'.2.2.1, fun e' r' q => ?_⟩
    cases q
    have : chain (e :: r) = true := h'.2.2.2.2
    cases r with
    | nil => exact this
    | cons x y => simp only [chain, Bool.and_eq_true] at this; exact this.1
  | [a], c, post, h => by
    have h' : (okC a && (okP a c && chain (c :: post))) = true := h
    simp only [Bool.and_eq_true] at h'
    exact chain_at [] c post h'.2.2
  | a :: b :: r, c, post, h => by
    have h' : (okC a && (okP a b && chain (b :: r ++ c :: post))) = true := h
    simp only [Bool.and_eq_true] at h'
    exact chain_at (b :: r) c post h'.2.2
theorem f_1 {cs0 pre : List Nat} {ch : Nat} {post : List Nat} (e0 : cs0 = pre ++ ch :: post) : (cs0.drop pre.length).take (pre.length + 1 - pre.length) = [ch] := by rw [e0]; simp
theorem f_2 {cs0 pre : List Nat} {ch : Nat} {post : List Nat} (e0 : cs0 = pre ++ ch :: post) : (cs0.drop (pre.length + 1)).take (pre.length + 2 - (pre.length + 1)) = post.take 1 := by
  rw [e0, List.drop_append, List.drop_of_length_le (by omega), Nat.add_sub_cancel_left, List.nil_append, show pre.length + 2 - (pre.length + 1) = 1 by omega]; rfl
theorem f_3 {cs0 pre : List Nat} {ch : Nat} {post : List Nat} (e0 : cs0 = pre ++ ch :: post) : (cs0.drop pre.length).take (pre.length + 2 - pre.length) = ch :: post.take 1 := by rw [e0]; simp
theorem f_4 {cs0 pre : List Nat} {ch : Nat} {post : List Nat} (e0 : cs0 = pre ++ ch :: post) : (cs0.drop pre.length).take (pre.length + 3 - pre.length) = ch :: post.take 2 := by rw [e0]; simp
end

section
open PySem PySem.W PyProof.Rows PySem.Spec PySem.Calls
set_option Elab.async false
set_option maxRecDepth 100000
set_option maxHeartbeats 1000000
set_option linter.all false
/-- a slice of a text -/
theorem sl_eq {cs : List Nat} {i j : Int} (h0 : 0 ≤ i) (h1 : i ≤ j) (h2 : i ≤ cs.length) : Txt.slice ⟨cs.toArray⟩ (some i) (some j) = ⟨((cs.drop i.toNat).take (j - i).toNat).toArray⟩ := by
  have hlen : (⟨cs.toArray⟩ : Str).length = cs.length := by simp [Str.length]
  obtain ⟨a, rfl⟩ := Int.eq_ofNat_of_zero_le h0
  obtain ⟨b, rfl⟩ := Int.eq_ofNat_of_zero_le (Int.le_trans h0 h1)
  have e : Txt.slice ⟨cs.toArray⟩ (some (a : Int)) (some (b : Int)) = Txt.slice ⟨cs.toArray⟩ (some (a : Int)) (some (min (b : Int) cs.length)) := by
    unfold Txt.slice
    have : Builtin.Str.strSliceIndices (some (a : Int)) (some (b : Int)) 1 (⟨cs.toArray⟩ : Str).length = Builtin.Str.strSliceIndices (some (a : Int)) (some (min (b : Int) cs.length)) 1 (⟨cs.toArray⟩ : Str).length := by
      unfold Builtin.Str.strSliceIndices
      rw [hlen]
      dsimp only
      have a1 : ¬ ((b : Int) < 0) := Int.not_lt.mpr (Int.natCast_nonneg _)
      have a2 : ¬ (min (b : Int) (cs.length : Int) < 0) := Int.not_lt.mpr (Int.le_min.mpr ⟨Int.natCast_nonneg _, Int.natCast_nonneg _⟩)
      rw [if_neg a1, if_neg a2]
      congr 1
      simp only [show (1 : Int) > 0 by decide, if_true]
      rw [Int.min_assoc, Int.min_self]
    rw [this]
  rw [e]
  have h := slice_closesL (x := ⟨cs.toArray⟩) (i := (a : Int)) (j := min (b : Int) cs.length) h0 (Int.le_min.mpr ⟨h1, h2⟩) (by rw [hlen]; exact Int.min_le_right _ _)
  rw [beq_iff_eq.mp h]
  congr 2
  show (cs.drop a).take (min (b : Int) (cs.length : Int) - a).toNat = _
  rcases Int.le_total (b : Int) cs.length with hj | hj
  · rw [Int.min_eq_left hj, Int.toNat_natCast]
  · have hn : cs.length ≤ b := Int.ofNat_le.mp hj
    rw [Int.min_eq_right hj, Int.toNat_natCast, Int.toNat_sub, Int.toNat_sub, List.take_of_length_le (by rw [List.length_drop]; exact Nat.le_refl _), List.take_of_length_le (by rw [List.length_drop]; exact Nat.sub_le_sub_right hn _)]
section
variable {prog : Program} {w : World} {A : Around} {E : Value → Shared → Prop} {s : Shared} {h₀ : Heap} {L : Addr} {m : Str → Option Value} {news : List (Addr × Obj)} {Q : Value → Shared → Prop} {value slice : PySem.Expr} {t : Tok}
theorem sl_at {cs : List Nat} (a b : Nat) (y : List Nat) {i j : Int} {ui uj : Tok} (hF : Fr h₀ L s.heap m) (hN : News h₀ L s.heap news) (hi : i = (a : Int)) (hj : j = (b : Int)) (hab : a ≤ b) (ha : a ≤ cs.length) (hy : (cs.drop a).take (b - a) = y) (hsz : cs.length ≤ 1000)
    (h : ∀ h' t' k, Fr h₀ L h' m → News h₀ L h' news → Q (.str ⟨y.toArray⟩ t') { s with heap := h', toks := k })
    (hs : subscripted slice false (.str ⟨cs.toArray⟩ t) (.ref s.heap.objs.size) = operate [.ref s.heap.objs.size, .str ⟨cs.toArray⟩ t] (getItem (.str ⟨cs.toArray⟩ t) (.ref s.heap.objs.size)) := by with_unfolding_all rfl)
    (ht : ∀ r, letTemporaryGo value (.str ⟨cs.toArray⟩ t) r = pure () := by intro _; with_unfolding_all rfl) :
    wpAny (model prog w) A (subscriptTail value slice (.str ⟨cs.toArray⟩ t) (.ref s.heap.objs.size)) Q E { s with heap := s.heap.push { cls := .type "slice", data := .fields #[.int i ui, .int j uj, .none] } } := by
  subst hi hj
  refine slice_strN_ss (hsz := by show cs.toArray.size ≤ sizeLine; rw [List.size_toArray]; unfold sizeLine; omega) hF hN (fun h' t' k F' N' => ?_) hs ht
  rw [sl_eq (Int.natCast_nonneg _) (Int.ofNat_le.mpr hab) (Int.ofNat_le.mpr ha)]
  rw [Int.toNat_natCast, Int.toNat_sub, hy]
  exact h h' t' k F' N'
end
/-- the table of the signs -/
noncomputable def TN : List (Str × Int) := [(⟨#[33]⟩, 54), (⟨#[33, 61]⟩, 28), (⟨#[37]⟩, 24), (⟨#[37, 61]⟩, 40), (⟨#[38]⟩, 19), (⟨#[38, 61]⟩, 41), (⟨#[40]⟩, 7), (⟨#[41]⟩, 8), (⟨#[42]⟩, 16), (⟨#[42, 42]⟩, 35), (⟨#[42, 42, 61]⟩, 46), (⟨#[42, 61]⟩, 38), (⟨#[43]⟩, 14), (⟨#[43, 61]⟩, 36), (⟨#[44]⟩, 12), (⟨#[45]⟩, 15), (⟨#[45, 61]⟩, 37), (⟨#[45, 62]⟩, 51), (⟨#[46]⟩, 23), (⟨#[46, 46, 46]⟩, 52), (⟨#[47]⟩, 17), (⟨#[47, 47]⟩, 47), (⟨#[47, 47, 61]⟩, 48), (⟨#[47, 61]⟩, 39), (⟨#[58]⟩, 11), (⟨#[58, 61]⟩, 53), (⟨#[59]⟩, 13), (⟨#[60]⟩, 20), (⟨#[60, 60]⟩, 33), (⟨#[60, 60, 61]⟩, 44), (⟨#[60, 61]⟩, 29), (⟨#[61]⟩, 22), (⟨#[61, 61]⟩, 27), (⟨#[62]⟩, 21), (⟨#[62, 61]⟩, 30), (⟨#[62, 62]⟩, 34), (⟨#[62, 62, 61]⟩, 45), (⟨#[64]⟩, 49), (⟨#[64, 61]⟩, 50), (⟨#[91]⟩, 9), (⟨#[93]⟩, 10), (⟨#[94]⟩, 32), (⟨#[94, 61]⟩, 43), (⟨#[123]⟩, 25), (⟨#[124]⟩, 18), (⟨#[124, 61]⟩, 42), (⟨#[125]⟩, 26), (⟨#[126]⟩, 31)]
noncomputable def TD : List (Str × KTD.Dat) := TN.map fun p => (p.1, KTD.Dat.flat (.int p.2))
theorem td_look (P : Params) : KTD.tabLook (KTD.datLooks fun a => List.lookup a (hd.heap_1_39 P)) (fun a => List.lookup a (hd.heap_1_39 P)) 39 TD = true := by kernel_rfl
theorem td_here {w : World} {h₀ h : Heap} {L : Addr} {m : Str → Option Value} (X₀ : (hd.heap_1_39 w.params).In h₀) (F : Fr h₀ L h m) : KTD.Here h₀ h 39 TD := ⟨KTD.text_of_look (fun a o e => X₀ a o e) (td_look _), F.keep⟩
theorem inKeys_iff {κ δ : Type} [DecidableEq κ] {k : κ} : ∀ {D : List (κ × δ)}, KTD.inKeys k D = true → ∃ p ∈ D, p.1 = k
  | [], h => by cases h
  | (x, d) :: D, h => by
    have h' : (decide (k = x) || KTD.inKeys k D) = true := h
    by_cases e : k = x
    · exact ⟨_, .head _, e.symm⟩
    · rw [decide_eq_false e, Bool.false_or] at h'
      obtain ⟨p, hp, hk⟩ := inKeys_iff h'
      exact ⟨p, .tail _ hp, hk⟩
theorem td_two : (TD.all fun p => decide (p.1.cps.toList.length = 2 → (p.1.cps.toList = [42, 42] ∨ okC (p.1.cps.toList.getD 1 0) = false))) = true := by decide +kernel
theorem td_three : (TD.all fun p => decide (p.1.cps.toList.length = 3 → okC (p.1.cps.toList.getD 2 0) = false)) = true := by decide +kernel
theorem no_two {a b : Nat} (hb : okC b = true) (hp : ¬ (a = 42 ∧ b = 42)) : KTD.inKeys (⟨[a, b].toArray⟩ : Str) TD = false := by
  cases h : KTD.inKeys (⟨[a, b].toArray⟩ : Str) TD with
  | false => rfl
  | true =>
    obtain ⟨p, hm, he⟩ := inKeys_iff h
    have h2 := of_decide_eq_true (List.all_eq_true.mp td_two p hm)
    have e : p.1.cps.toList = [a, b] := by rw [he]
    rw [e] at h2
    rcases h2 rfl with h3 | h3
    · injection h3 with h4 h5; injection h5 with h5; exact absurd ⟨h4, h5⟩ hp
    · have : okC b = false := h3
      rw [hb] at this; cases this
theorem no_three {a b c : Nat} (hc : okC c = true) : KTD.inKeys (⟨[a, b, c].toArray⟩ : Str) TD = false := by
  cases h : KTD.inKeys (⟨[a, b, c].toArray⟩ : Str) TD with
  | false => rfl
  | true =>
    obtain ⟨p, hm, he⟩ := inKeys_iff h
    have h2 := of_decide_eq_true (List.all_eq_true.mp td_three p hm)
    have e : p.1.cps.toList = [a, b, c] := by rw [he]
    rw [e] at h2
    have : okC c = false := h2 rfl
    rw [hc] at this; cases this
theorem yes_one {c : Nat} (h : c = 40 ∨ c = 41 ∨ c = 42 ∨ c = 43 ∨ c = 45) : KTD.inKeys (⟨[c].toArray⟩ : Str) TD = true := by
  rcases h with rfl | rfl | rfl | rfl | rfl <;> decide +kernel
theorem val_one {c : Nat} (h : c = 40 ∨ c = 41 ∨ c = 42 ∨ c = 43 ∨ c = 45) {h₀ : Heap} {P : Value → Prop} (hP : ∀ t, P (.int (symOf c) t)) : KTD.EachL h₀ (⟨[c].toArray⟩ : Str) P TD := by
  have key : ∀ (D : List (Str × Int)) (k : Str) (v : Int), (D.find? fun p => decide (p.1 = k)).map (·.2) = some v → (∀ t, P (.int v t)) → KTD.EachL h₀ k P (D.map fun p => (p.1, KTD.Dat.flat (.int p.2))) := by
    intro D
    induction D with
    | nil => intro k v h _; cases h
    | cons x r ih =>
      intro k v h hv
      by_cases e : x.1 = k
      · rw [List.find?_cons, decide_eq_true e] at h
        have : x.2 = v := by simpa using h
        subst this
        exact KTD.eachL_hit e.symm (KTD.opened_int hv)
      · rw [List.find?_cons, decide_eq_false e] at h
        exact KTD.eachL_miss (fun q => e q.symm) (ih k v h hv)
  refine key TN _ (symOf c) ?_ hP
  rcases h with rfl | rfl | rfl | rfl | rfl <;> decide +kernel
theorem td_plain : (TD.all fun p => KTD.plain p.2) = true := by decide +kernel
theorem okC_lt {c : Nat} (h : okC c = true) : c < 81 := by
  unfold okC at h
  rcases (Bool.or_eq_true _ _).mp h with h | h
  · exact Nat.lt_succ_of_le (of_decide_eq_true h).2
  · exact (by decide : ∀ x ∈ [40, 41, 42, 43, 45], x < 81) c (List.contains_iff_mem.mp h)
theorem okC_mem : ∀ c < 81, okC c = true → c ∈ [40, 41, 42, 43, 45, 66, 67, 68, 69, 70, 71, 72, 73, 74, 75, 76, 77, 78, 79, 80] := by decide +kernel
open PySem.Builtin in
theorem enc_all : ∀ c ∈ [40, 41, 42, 43, 45, 66, 67, 68, 69, 70, 71, 72, 73, 74, 75, 76, 77, 78, 79, 80], ∀ t u : Tok, «str.encode» ⟨[.str ⟨#[c]⟩ t, .str (PySem.Str.ofString "ascii") u], []⟩ = (mkBytes #[c.toUInt8] >>= fun v => ret v) := by
  repeat' first | exact List.forall_mem_nil _ | refine List.forall_mem_cons.mpr ⟨fun t u => by kernel_rfl, ?_⟩
open PySem.Builtin in
theorem enc_eq {c : Nat} (h : okC c = true) {t u : Tok} : «str.encode» ⟨[.str ⟨#[c]⟩ t, .str (PySem.Str.ofString "ascii") u], []⟩ = (mkBytes #[c.toUInt8] >>= fun v => ret v) :=
  enc_all c (okC_mem c (okC_lt h) h) t u
theorem encode1 {prog : Program} {w : World} {A : Around} {E : Value → Shared → Prop} {s : Shared} {t u : Tok} {c : Nat} {Q : Value → Shared → Prop} (hc : okC c = true) (h : ∀ t' k, Q (.bytes #[c.toUInt8] t') { s with toks := k }) :
    wpAny (model prog w) A (call (.builtin "str.encode") [.str ⟨#[c]⟩ t, .str (PySem.Str.ofString "ascii") u]) Q E s := by
  refine call_meets (S := fun _ R s => ∀ t' k, R (.ok (.ret (.bytes #[c.toUInt8] t'))) { s with toks := k }) PySem.F.slot_str_encode (typeIs_str _ _ _) PySem.F.entry_str_encode (PySem.F.args_str_encode_2 _ _) ?_ h
  refine .of_wp fun prog w A R s h => ?_
  rw [enc_eq hc]
  exact wpAny_bind (wpAny_mkBytes (wpAny_pure ⟨_, rfl, h _ _⟩))
section
variable {prog : Program} {w : World} {A : Around} {E : Value → Shared → Prop} {s : Shared} {h₀ : Heap} {L d : Addr} {m : Str → Option Value} {news : List (Addr × Obj)} {u : Obj → List (Addr × Obj)} {o : Obj} {kvs : List (Int × Value)} {D : List (PyData × PyData)} {k : Int} {tk te : Tok}
theorem words_set {x : Str} {Q : Unit → Shared → Prop} (F : Fr h₀ L s.heap m) (N : News h₀ L s.heap news) (U : UpdF d o news u) (hd : o.IsDictOf (PySem.intKind prog w) kvs) (hf : PyProof.V.FlatPairs PyData.int kvs D) (hc : D.length ≤ 1000)
    (h : ∀ h' o' kvs', Fr h₀ L h' m → News h₀ L h' (u o') → o'.IsDictOf (PySem.intKind prog w) kvs' → PyProof.V.FlatPairs PyData.int kvs' (PyProof.V.putD (PyData.int k) (PyData.str x) D) → Q () { s with heap := h', toks := s.toks + 1 }) :
    wpAny (model prog w) A (setItem (.ref d) (.int k tk) (.str x te)) Q E s :=
  setItem_K PyProof.V.same_int (intKind_is _ _ _ _) (PyProof.V.Flat.str x te) F N U hd hf (fun h' o' F' N' a b => h h' o' _ F' N' a b) (by unfold sizeLine; omega)
theorem last_at {value slice : PySem.Expr} {l : Addr} {vi : List Value} {v : Value} {n : Nat} {u : Tok} {Q : Value → Shared → Prop} (N : News h₀ L s.heap news) (hm : (l, listOf (vi ++ [v]).toArray n) ∈ news) (hsz : vi.length ≤ 1000) (h : Q v s)
    (hs : subscripted slice false (.ref l) (.int (-1) u) = operate [.ref l, .int (-1) u] (getItem (.ref l) (.int (-1) u)) := by with_unfolding_all rfl) (hg : ∀ r, letTemporaryGo value (.ref l) r = pure () := by intro _; with_unfolding_all rfl) :
    wpAny (model prog w) A (subscriptTail value slice (.ref l) (.int (-1) u)) Q E s :=
  item_last ⟨_, (N _ hm).1, rfl, _, rfl⟩ h hs hg
end
theorem tt_in {prog : Program} {w : World} {A : Around} {E : Value → Shared → Prop} {s : Shared} {h₀ : Heap} {k : Str} {tk : Tok} {Q : Value → Shared → Prop} (b : Bool) (T : KTD.Here h₀ s.heap 39 TD) (hb : KTD.inKeys k TD = b) (h : Q (.bool b) { s with toks := s.toks + 1 }) : wpAny (model prog w) A (compareOp .In (.str k tk) (.ref 39)) Q E s :=
  KTD.in_text T (by rw [hb]; exact h)
theorem tt_item {prog : Program} {w : World} {A : Around} {E : Value → Shared → Prop} {s : Shared} {h₀ : Heap} {c : Nat} {tk : Tok} {value slice : PySem.Expr} {Q : Value → Shared → Prop} (T : KTD.Here h₀ s.heap 39 TD) (hc : c = 40 ∨ c = 41 ∨ c = 42 ∨ c = 43 ∨ c = 45) (h : ∀ t, Q (.int (symOf c) t) { s with toks := s.toks + 1 })
    (hs : subscripted slice false (.ref 39) (.str ⟨#[c]⟩ tk) = operate [.ref 39, .str ⟨#[c]⟩ tk] (getItem (.ref 39) (.str ⟨#[c]⟩ tk)) := by with_unfolding_all rfl) :
    wpAny (model prog w) A (subscriptTail value slice (.ref 39) (.str ⟨#[c]⟩ tk)) Q E s := KTD.item_textA T td_plain (yes_one hc) (val_one hc h) hs
theorem two_facts {c d : Nat} {r : List Nat} (h : okP c d = true) (h1 : okC d = true) (h2 : ∀ e r', r = e :: r' → okC e = true) : KTD.inKeys (⟨[c, d].toArray⟩ : Str) TD = false ∧ KTD.inKeys (⟨(c :: d :: r.take 1).toArray⟩ : Str) TD = false := by
  have a : ¬ (c = 42 ∧ d = 42) := by
    rintro ⟨rfl, rfl⟩
    exact absurd h (by decide)
  refine ⟨no_two h1 a, ?_⟩
  cases r with
  | nil => exact no_two h1 a
  | cons e r' => exact no_three (h2 e r' rfl)
end

section
open PySem PySem.W PyProof.Rows PySem.Spec PySem.Calls
set_option Elab.async false
set_option maxRecDepth 100000
set_option maxHeartbeats 1000000
set_option linter.all false
open LCg LCt
section
variable {prog : Program} {w : World} {A : Around} {E : Value → Shared → Prop} {s : Shared} {h₀ : Heap} {L : Addr} {m : Str → Option Value} {env : Env}
noncomputable def TupAt (ax : Addr) (its : Array Value) (nw : List (Addr × Obj)) : Prop := ∃ n, (ax, ({ cls := .type "tuple", data := .seq its n } : Obj)) ∈ nw
noncomputable def SrcTT (prog : Program) (w : World) (A : Around) (h₀ : Heap) (L : Addr) (m : Str → Option Value) (env : Env) (ct elt : PySem.Expr) (x : Str) (scope : Scope) (cl : List (Str × Addr)) (Fin : Shared → List Value → List (Addr × Obj) → Prop) (xv : Value) (s₁ : Shared) : Prop :=
  ∃ ax its news, xv = .ref ax ∧ A.handled = none ∧ Fr h₀ L s₁.heap m ∧ News h₀ L s₁.heap news ∧ TupAt ax its news ∧ its.size ≤ 100 ∧
    ∀ g, CompRestT prog w A h₀ L m env ct elt x scope cl { s₁ with heap := g } (TupAt ax its) (fun i v => its[i]? = some v) (Fin { s₁ with heap := g }) its.size 0 [] news
theorem SrcTT.mk {ct elt : PySem.Expr} {x : Str} {scope : Scope} {cl : List (Str × Addr)} {Fin : Shared → List Value → List (Addr × Obj) → Prop} {ax : Addr} {its : Array Value} {n : Nat} {news : List (Addr × Obj)} {s₁ : Shared}
    (hh : A.handled = none) (F : Fr h₀ L s₁.heap m) (N : News h₀ L s₁.heap news) (hm : (ax, ({ cls := .type "tuple", data := .seq its n } : Obj)) ∈ news) (k : Nat) (hk : its.size = k) (hsz : k ≤ 100)
    (h : ∀ g, CompRestT prog w A h₀ L m env ct elt x scope cl { s₁ with heap := g } (TupAt ax its) (fun i v => its[i]? = some v) (Fin { s₁ with heap := g }) k 0 [] news) :
    SrcTT prog w A h₀ L m env ct elt x scope cl Fin (.ref ax) s₁ := by subst hk; exact ⟨ax, its, news, rfl, hh, F, N, ⟨n, hm⟩, hsz, h⟩
theorem ListComp_Tt {ct elt iter : PySem.Expr} {x : Str} {px : Pos} {scope : Scope} {cl : List (Str × Addr)} {pos : Pos} {Q : Value → Shared → Prop} (F₀ : Fr h₀ L s.heap m)
    (hclos : closureFor scope env = pure cl) (hcell : ∀ y ∈ scope.names, y.2 ≠ .cell) (hkind : scope.kind = .function)
    (hnames : ∀ y ∈ scope.names, y.2 = .local → scope.names.lookup y.1 = some .local) (hx : scope.names.lookup x = some .local)
    (h : wpAny (model prog w) A (eval iter env) (SrcTT prog w A h₀ L m env ct elt x scope cl (fun s₂ => FinE h₀ L m s₂ Q)) E s)
    (hs : ∀ x, foldedSetIterable iter env x = pure x := by intro _; rfl) :
    wpAny (model prog w) A (eval (.ListComp elt [⟨.Name x px, iter, [ct], 0⟩] scope pos) env) Q E s := by
  rw [eval_ListComp]
  refine wpAny_comprehension_free (use := none) rfl hs hclos hkind hnames (wpAny_mono h (fun xv s₁ h₁ => ?_) fun _ _ e => e)
  obtain ⟨ax, its, news, rfl, hh, F, N, ⟨nt, hm⟩, hsz, R⟩ := h₁
  have hg := (N _ hm).1
  have hlt : ax < s₁.heap.objs.size := Heap.lt_size hg
  have ht : s₁.heap.IsTuple ax its := ⟨_, hg, rfl, _, rfl⟩
  refine wpAny_pyIter_tuple ht ?_
  have up : ∀ b o, s₁.heap.get? b = some o → (s₁.heap.push { cls := .type "tuple_iterator", data := .fields #[.ref ax, .int 0 0] }).get? b = some o := fun b o e => Heap.get?_push_of_some _ e
  refine block_T (Walks.tuple hh s₁.heap.objs.size ax (Nat.ne_of_lt hlt) its) (by unfold sizeLine; omega) (fun i h st => by obtain ⟨o, e, _⟩ := st.1; exact ⟨o, e⟩) (fun i h h' o nw st e1 e2 _ N' S' => ?_) hcell hkind hx ⟨⟨_, Heap.get?_push_size _ rfl, rfl, rfl⟩, ⟨_, up _ _ hg, rfl, _, rfl⟩⟩ (fun b hb => ?_)
    (F.keeps up) (N.grown up) (Nat.ne_of_lt F.ns.lt) (next_is_new F) (fun p hp => Nat.ne_of_lt (Heap.lt_size (N p hp).1)) ⟨nt, hm⟩ (R _) ?_
  · obtain ⟨⟨oi, q1, q2⟩, _⟩ := st
    rw [e1] at q1
    cases q1
    obtain ⟨n', hm'⟩ := S'
    exact ⟨⟨_, e2, q2⟩, ⟨_, (N' _ hm').1, rfl, _, rfl⟩⟩
  · show b < (s₁.heap.push _).objs.size
    rw [Heap.size_push]
    rcases List.mem_cons.mp hb with rfl | hb
    · exact Nat.lt_succ_self _
    · rw [List.mem_singleton.mp hb]; exact Nat.lt_succ_of_lt hlt
  · intro D C h tk m' ys news' F' N' o1 hn hC₀ hD₀ hCL hDL hCD offC fin
    refine ⟨m', hn, fun h'' hs'' => fin D h'' tk (F'.change hs'' hCL hC₀) (fun p hp => ?_) o1⟩
    refine ⟨hs''.extBut _ _ ?_ (N' p hp).1, (N' p hp).2⟩
    rcases List.mem_cons.mp hp with rfl | hp
    · exact Ne.symm hCD
    · exact offC p hp
end
end

section
open PySem PySem.W PyProof.Rows PySem.Spec PySem.Calls
set_option Elab.async false
set_option maxRecDepth 100000
set_option maxHeartbeats 1000000
set_option linter.all false
theorem letter_sym {c : Nat} (h : isLet c = true) : 256 + Piece.worth ⟨Str.ofString " ", ⟨#[c]⟩⟩ - 1 = symOf c := by
  have h1 := of_decide_eq_true h
  unfold Piece.worth symOf
  rw [if_neg (show ¬ (Str.ofString " " = Str.ofString "-") by decide), if_pos (by omega)]
  show 256 + (16 * 0 + (c : Int) - 65) - 1 = _
  omega
theorem par_all (d : Int) : ∀ c ∈ [40, 41, 42, 43, 45, 66, 67, 68, 69, 70, 71, 72, 73, 74, 75, 76, 77, 78, 79, 80], ParD.out ⟨c.toUInt8, d⟩ = depOf c d := by
  repeat' first | exact List.forall_mem_nil _ | refine List.forall_mem_cons.mpr ⟨rfl, ?_⟩
theorem par_out {c : Nat} {d : Int} (h : okC c = true) : ParD.out ⟨c.toUInt8, d⟩ = depOf c d := par_all d c (okC_mem c (okC_lt h) h)
theorem sym_inj {a b : Nat} (ha : isLet a = true) (hb : isLet b = true) (h : symOf a = symOf b) : a = b := by
  have h1 := of_decide_eq_true ha
  have h2 := of_decide_eq_true hb
  unfold symOf at h
  rw [if_pos (by omega), if_pos (by omega)] at h
  omega
structure RdSt where
  pre : List Nat
  post : List Nat
  pl : Int
  tp : Tok
  oP : Obj
  vs : List Value
  ws : List Value
  n1 : Nat
  n2 : Nat
  ow : Obj
  kvs : List (Int × Value)
  D : List (PyData × PyData)
  dep : Int
  td : Tok
noncomputable def RdLed (wl dl sl cp : Addr) (rest : List (Addr × Obj)) (c : RdSt) : List (Addr × Obj) := (wl, c.ow) :: (dl, listOf c.ws.toArray c.n2) :: (sl, listOf c.vs.toArray c.n1) :: (cp, c.oP) :: rest
noncomputable def RdP (w : World) (cs0 : List Nat) (c : RdSt) : Prop :=
  cs0 = c.pre ++ c.post ∧ (c.post ≠ [] → c.pl = (c.pre.length : Int)) ∧ (c.post = [] → (cs0.length : Int) ≤ c.pl) ∧ c.oP.data = .cell (some (.int c.pl c.tp)) ∧ IntsAre c.vs ((scan c.pre 0).map (·.1)) ∧ IntsAre c.ws ((scan c.pre 0).map (·.2)) ∧
  c.dep = depEnd c.pre 0 ∧ c.ow.IsDictOf (PySem.intKind PySem.Challenge.rw_xn0010_01.row.prog w) c.kvs ∧ PyProof.V.FlatPairs PyData.int c.kvs c.D ∧ c.D.length ≤ c.pre.length ∧
  (∀ x ∈ c.pre, isLet x = true → PySem.Spec.lookup (PyData.int (symOf x)) c.D = some (PyData.str ⟨#[x]⟩))
theorem words_put {pre : List Nat} {ch : Nat} {D : List (PyData × PyData)} {x : Int} (hl : isLet ch = true) (hx : x = symOf ch) (h : ∀ z ∈ pre, isLet z = true → PySem.Spec.lookup (PyData.int (symOf z)) D = some (PyData.str ⟨#[z]⟩)) :
    ∀ z ∈ pre ++ [ch], isLet z = true → PySem.Spec.lookup (PyData.int (symOf z)) (PyProof.V.putD (PyData.int x) (PyData.str ⟨#[ch]⟩) D) = some (PyData.str ⟨#[z]⟩) := by
  subst hx
  intro z hz hlz
  by_cases e : z = ch
  · subst e
    exact PyProof.V.lookup_putK_same PyProof.V.keyEnc_int _ _ _
  · rw [PyProof.V.lookup_putK_other PyProof.V.keyEnc_int (fun q => e (sym_inj hlz hl q))]
    rcases List.mem_append.mp hz with hz | hz
    · exact h z hz hlz
    · exact absurd (List.mem_singleton.mp hz) e
theorem words_keep {pre : List Nat} {ch : Nat} {D : List (PyData × PyData)} (hl : isLet ch = false) (h : ∀ z ∈ pre, isLet z = true → PySem.Spec.lookup (PyData.int (symOf z)) D = some (PyData.str ⟨#[z]⟩)) :
    ∀ z ∈ pre ++ [ch], isLet z = true → PySem.Spec.lookup (PyData.int (symOf z)) D = some (PyData.str ⟨#[z]⟩) := by
  intro z hz hlz
  rcases List.mem_append.mp hz with hz | hz
  · exact h z hz hlz
  · rw [List.mem_singleton.mp hz, hl] at hlz; cases hlz
theorem some_int {i j : Int} {t : Tok} (h : i = j) : some (Value.int i t) = some (Value.int j t) := by rw [h]
theorem rd_end {w : World} {h₀ h' : Heap} {L wl dl sl cp : Addr} {s : Shared} {rest led : List (Addr × Obj)} {m₀ m' : Str → Option Value} {cs0 pre post : List Nat} {ch : Nat} {pl pl' x y dep : Int} {tp tp' t1 t2 td : Tok} {oP oP' ow ow' : Obj} {vs ws : List Value} {n1 n2 n1' n2' tk : Nat} {kvs kvs' : List (Int × Value)} {D D' : List (PyData × PyData)}
    (F : Fr h₀ L h' m') (N : News h₀ L h' led) (sub : ∀ p ∈ (wl, ow') :: (dl, listOf (List.toArray (ws ++ [Value.int y t2])) n2') :: (sl, listOf (List.toArray (vs ++ [Value.int x t1])) n1') :: (cp, oP') :: rest, p ∈ led)
    (e0 : cs0 = pre ++ ch :: post) (hok : okC ch = true) (hx : x = symOf ch) (hy : y = ParD.out ⟨ch.toUInt8, dep⟩) (iv : IntsAre vs ((scan pre 0).map (·.1))) (iw : IntsAre ws ((scan pre 0).map (·.2))) (ed : dep = depEnd pre 0)
    (hP : oP'.data = .cell (some (.int pl' tp'))) (p1 : post ≠ [] → pl' = (pre.length : Int) + 1) (p2 : post = [] → (cs0.length : Int) ≤ pl') (hw : ow'.IsDictOf (PySem.intKind PySem.Challenge.rw_xn0010_01.row.prog w) kvs') (hf : PyProof.V.FlatPairs PyData.int kvs' D') (hD : D'.length ≤ pre.length + 1)
    (hlk : ∀ z ∈ pre ++ [ch], isLet z = true → PySem.Spec.lookup (PyData.int (symOf z)) D' = some (PyData.str ⟨#[z]⟩)) (hd : m' (Str.ofString "depth") = some (.int y td)) (hr : ∀ z, z ≠ Str.ofString "depth" → z ≠ Str.ofString "end" → m' z = m₀ z) {tdo : Tok} :
    KswEnd h₀ L s (RdLed wl dl sl cp rest) (fun c => [(Str.ofString "depth", .int c.dep c.td)]) (fun _ => True) [Str.ofString "end"] m₀ (RdP w cs0) (fun c => c.post.length) ⟨pre, ch :: post, pl, tp, oP, vs, ws, n1, n2, ow, kvs, D, dep, tdo⟩ { s with heap := h', toks := tk } := by
  have hy' : y = depOf ch (depEnd pre 0) := by rw [hy, par_out hok, ed]
  refine ksw_end (⟨pre ++ [ch], post, pl', tp', oP', vs ++ [Value.int x t1], ws ++ [Value.int y t2], n1', n2', ow', kvs', D', y, td⟩ : RdSt) F N sub trivial (one_in hd) (fun z h1 h2 => hr z (h1 _ (.head _)) (fun e => by subst e; exact absurd h2 (by decide +kernel))) ?_ (by show post.length < post.length + 1; omega)
  refine ⟨by simpa using e0, fun h => by rw [p1 h]; simp, p2, hP, ?_, ?_, ?_, hw, hf, by simpa using hD, hlk⟩
  · show IntsAre (vs ++ [.int x t1]) ((scan (pre ++ [ch]) 0).map (·.1))
    rw [scan_snoc, List.map_append, hx]
    exact iv.append (.cons _ _ .nil)
  · show IntsAre (ws ++ [.int y t2]) ((scan (pre ++ [ch]) 0).map (·.2))
    rw [scan_snoc, List.map_append, hy']
    exact iw.append (.cons _ _ .nil)
  · show y = depEnd (pre ++ [ch]) 0
    rw [depEnd_snoc, hy']
theorem rd_fin {g h : Heap} {L : Addr} {t a b c x y : Addr × Obj} {news : List (Addr × Obj)} (N : News g L h (t :: a :: b :: c :: x :: y :: news)) : News g L h (news ++ [t, a, b, c]) := fun p hp => N p (by
  simp only [List.mem_append, List.mem_cons, List.not_mem_nil, or_false] at hp ⊢
  rcases hp with h | h | h | h | h
  · exact .inr (.inr (.inr (.inr (.inr (.inr h)))))
  · exact .inl h
  · exact .inr (.inl h)
  · exact .inr (.inr (.inl h))
  · exact .inr (.inr (.inr (.inl h))))
theorem ord4 {t a b c : Addr × Obj} {news : List (Addr × Obj)} (h1 : AllLt t.1 news) (h2 : AllLt a.1 news) (h3 : AllLt b.1 news) (h4 : AllLt c.1 news) : ∀ q ∈ news, ∀ p ∈ [t, a, b, c], q.1 < p.1 := by
  intro q hq p hp
  simp only [List.mem_cons, List.not_mem_nil, or_false] at hp
  rcases hp with rfl | rfl | rfl | rfl
  · exact ktn_ltOf h1 q hq
  · exact ktn_ltOf h2 q hq
  · exact ktn_ltOf h3 q hq
  · exact ktn_ltOf h4 q hq
end

section
open PySem PySem.W PyProof.Rows PySem.Spec PySem.Calls
set_option Elab.async false
set_option maxRecDepth 100000
set_option maxHeartbeats 2000000
set_option linter.all false
theorem fresh_E25 {prog : Program} {w : World} {A : Around} {E : Value → Shared → Prop} {s : Shared} {Q : Value → Shared → Prop} (h : wpAny (model prog w) A (call (.int 0 0) []) Q E s) : wpAny (model prog w) A (call (.int 0 0) []) Q E s := by
  k_with_none
  w_top off
  first | (walk1; fail) | exact h
theorem line_E25_1 : True := by
  k_with "own_my_center" => (refine' code_defC ?k1 ?k2 ?k3 ?k4 ?k5 ?kA ?kF ?kK ?k6 ?k7 ?k8 ?k9 ?kB ?kD ?_ ?c2 ?c3 ?c4; (case kA => exact rfl); (case kF => exact rfl); (case kK => assumption); (case k1 => k_asm); (case k2 => k_asm); (case k3 => k_asm); (case k4 => k_asm); (case k5 => k_asm); (case k6 => k_is); (case k7 => k_is); (case k8 => ktr_room); (case k9 => first | exact BindsTo.of_eq rfl | exact binds_K (by k_in) rfl (by k_is) rfl rfl rfl | fail "k_enter: no rule for these arguments"); (case kB => exact rfl); (case kD => decide +kernel); (case c2 => exact rfl); (case c3 => exact rfl); (case c4 => exact rfl); k_whole; intro g' L' h' tk' cells' FG' F' N' Y' B' X' T' l1; (try k_lt l1); k_cells Y'; (try simp only [List.cons_append, List.nil_append] at N'); (try dsimp only); (try k_lift B'); (try k_fold))
  trivial

theorem line_E25_2 : True := by
  k_with "own_k_all" => (first | assumption | exact ne_vp1 (by assumption) | exact ne_vp2 (by assumption) | exact ne_up1 (by assumption) | exact ne_up2 (by assumption))
  trivial
structure RdD where
  cs : List Nat
inductive RdArg (news : List (Addr × Obj)) : List Value → RdD → Prop where
  | mk {cs : List Nat} {t : Tok} : RdArg news [.str ⟨cs.toArray⟩ t] ⟨cs⟩
inductive RdOut (w : World) (news : List (Addr × Obj)) : Value → RdD → Prop where
  | mk {a sl dl wl : Addr} {d : RdD} {vs ws : List Value} {n n1 n2 : Nat} {ow : Obj} {kvs : List (Int × Value)} {D : List (PyData × PyData)} :
     (a, tupO [.ref sl, .ref dl, .ref wl] n) ∈ news → (sl, listOf vs.toArray n1) ∈ news → (dl, listOf ws.toArray n2) ∈ news → (wl, ow) ∈ news → (wl == sysModules) = false →
     IntsAre vs ((scan d.cs 0).map (·.1)) → IntsAre ws ((scan d.cs 0).map (·.2)) → ow.IsDictOf (PySem.intKind PySem.Challenge.rw_xn0010_01.row.prog w) kvs → PyProof.V.FlatPairs PyData.int kvs D →
     (∀ c ∈ d.cs, isLet c = true → PySem.Spec.lookup (PyData.int (symOf c)) D = some (PyData.str ⟨#[c]⟩)) → RdOut w news (.ref a) d
noncomputable abbrev readT (w : World) : ToldN RdD where
  Rel := RdArg
  Ok := fun d => d.cs.length ≤ 100 ∧ chain d.cs = true
  size := fun _ => 2
  Tl := ktnAny
  Out := RdOut w
section
variable {w : World} {A : Around} {E : Value → Shared → Prop} {Q : Flow → Shared → Prop} {s : Shared} {env : Env} {h₀ : Heap} {L : Addr}
theorem read_loop {cs0 : List Nat} {test : PySem.Expr} {body : List Stmt} {pos : Pos} {m₀ : Str → Option Value} {wl dl sl cp : Addr} {ow oP : Obj} {tp td : Tok} {rest : List (Addr × Obj)}
    (F : Fr h₀ L s.heap m₀) (N : News h₀ L s.heap ((wl, ow) :: (dl, listOf #[] 0) :: (sl, listOf #[] 0) :: (cp, oP) :: rest)) (hd : m₀ (Str.ofString "depth") = some (.int 0 td)) (hw : ow.IsDictOf (PySem.intKind PySem.Challenge.rw_xn0010_01.row.prog w) []) (hP : oP.data = .cell (some (.int 0 tp)))
    (turn : ∀ (c : RdSt) (u : Str → Option Value) h tk (P : Flow → Shared → Prop) (R : Shared → Prop), RdP w cs0 c → Fr h₀ L h (kstB (fun z => if [Str.ofString "end"].contains z then u z else m₀ z) [(Str.ofString "depth", .int c.dep c.td)]) → News h₀ L h (RdLed wl dl sl cp rest c) →
      (∀ f s', KswPost h₀ L s (RdLed wl dl sl cp rest) (fun c => [(Str.ofString "depth", .int c.dep c.td)]) (fun _ => True) [Str.ofString "end"] m₀ (RdP w cs0) (fun c => c.post.length) Q c f s' → P f s') → (∀ s', Q .next s' → R s') →
      wpAny (model PySem.Challenge.rw_xn0010_01.row.prog w) A (isTrue test env (eval test env)) (fun b s₂ =>
        if b = true then wpAny (model PySem.Challenge.rw_xn0010_01.row.prog w) A (execs body env) P E s₂ else R s₂) E { s with heap := h, toks := tk })
    (hE : PassesOwn (model PySem.Challenge.rw_xn0010_01.row.prog w) A env E := by passes_own) :
    wpAny (model PySem.Challenge.rw_xn0010_01.row.prog w) A (exec (.While test body [] pos) env) Q E s :=
  ksw_while (σ := RdSt) (RdLed wl dl sl cp rest) (fun c => [(Str.ofString "depth", .int c.dep c.td)]) (fun _ => True) [Str.ofString "end"] (RdP w cs0) (fun c => c.post.length) ⟨[], cs0, 0, tp, oP, [], [], 0, 0, ow, [], [], 0, td⟩ F N trivial (one_in hd)
    ⟨rfl, fun _ => rfl, fun h => by dsimp only at h; subst h; exact Int.le_refl _, hP, .nil, .nil, rfl, hw, .nil, Nat.le_refl _, fun _ h => nomatch h⟩ (fun c u h tk _ hp F N => turn c u h tk _ _ hp F N (fun _ _ h => h) fun _ h => h) hE
end
theorem le_strB {prog : Program} {w : World} {A : Around} {E : Value → Shared → Prop} {s : Shared} {x y : Str} {t u : Tok} {Q : Value → Shared → Prop} (b : Bool) (hb : (!(decide (y.cps.toList < x.cps.toList))) = b) (h : Q (.bool b) s) : wpAny (model prog w) A (compareOp .LtE (.str x t) (.str y u)) Q E s :=
  P.le_str (by rw [hb]; exact h)
theorem lt1 {a b : Nat} : ([a] < [b]) ↔ a < b := by rw [List.cons_lt_cons_iff]; simp
theorem let_g1 {c : Nat} (h : isLet c = true) : (!(decide ([c] < [65]))) = true := by
  have h1 := of_decide_eq_true h
  rw [decide_eq_false (by rw [lt1]; omega)]; rfl
theorem let_g2 {c : Nat} (h : isLet c = true) : (!(decide ([80] < [c]))) = true := by
  have h1 := of_decide_eq_true h
  rw [decide_eq_false (by rw [lt1]; omega)]; rfl
theorem sg_lt {c : Nat} (h : okC c = true) (hl : isLet c = false) : c = 40 ∨ c = 41 ∨ c = 42 ∨ c = 43 ∨ c = 45 := by
  unfold okC at h
  rw [hl, Bool.false_or, List.contains_iff_mem] at h
  simp only [List.mem_cons, List.not_mem_nil, or_false] at h
  exact h
theorem sg_g {c : Nat} (h : c = 40 ∨ c = 41 ∨ c = 42 ∨ c = 43 ∨ c = 45) : (!(decide ([c] < [65]))) = false := by
  rw [decide_eq_true (by rw [lt1]; omega)]; rfl
theorem nx_g {c : Nat} {post : List Nat} (h : isLet c = true) (hn : ∀ d r, post = d :: r → okP c d = true ∧ okC d = true ∧ ∀ e r', r = e :: r' → okC e = true) : (!(decide (post.take 1 < [65]))) = false := by
  cases post with
  | nil => simp
  | cons d r =>
    obtain ⟨h1, h2, _⟩ := hn d r rfl
    have hd : isLet d = false := by
      cases e : isLet d with
      | false => rfl
      | true => unfold okP at h1; rw [h, e] at h1; cases h1
    exact sg_g (sg_lt h2 hd)
section
variable {prog : Program} {w : World} {A : Around} {E : Value → Shared → Prop} {Q : Flow → Shared → Prop} {s : Shared} {env : Env} {h₀ : Heap} {L : Addr}
theorem end_loop (k p : Nat) {test : PySem.Expr} {body : List Stmt} {pos : Pos} {m₀ : Str → Option Value} {led : List (Addr × Obj)} {t0 : Tok} (F : Fr h₀ L s.heap m₀) (N : News h₀ L s.heap led) (he : m₀ (Str.ofString "end") = some (.int (p : Int) t0))
    (turn : ∀ (c : Nat × Tok) (u : Str → Option Value) h tk (P : Flow → Shared → Prop), c.1 ≤ k → Fr h₀ L h (kstB (fun z => if ([] : List Str).contains z then u z else m₀ z) [(Str.ofString "end", .int ((p : Int) + (c.1 : Int)) c.2)]) → News h₀ L h led →
      (∀ f s', KswPost h₀ L s (fun _ => led) (fun (c : Nat × Tok) => [(Str.ofString "end", .int ((p : Int) + (c.1 : Int)) c.2)]) (fun _ => True) [] m₀ (fun c => c.1 ≤ k) (fun c => k - c.1) Q c f s' → P f s') →
      wpAny (model prog w) A (isTrue test env (eval test env)) (fun b s₂ =>
        if b = true then wpAny (model prog w) A (execs body env) P E s₂ else Q .next s₂) E { s with heap := h, toks := tk })
    (hE : PassesOwn (model prog w) A env E := by passes_own) :
    wpAny (model prog w) A (exec (.While test body [] pos) env) Q E s :=
  ksw_while (σ := Nat × Tok) (fun _ => led) (fun c => [(Str.ofString "end", .int ((p : Int) + (c.1 : Int)) c.2)]) (fun _ => True) [] (fun c => c.1 ≤ k) (fun c => k - c.1) ⟨0, t0⟩ F N trivial (one_in (by rw [he]; simp)) (Nat.zero_le _) (fun c u h tk _ hp F N => turn c u h tk _ hp F N fun _ _ h => h) hE
end
theorem m_encode {prog : Program} {w : World} {A : Around} {E : Value → Shared → Prop} {s : Shared} {x : Str} {t : Tok} {pl : Sem Bool} {Q : Value × List Value → Shared → Prop} (h : Q (.builtin "str.encode", [.str x t]) s) : wpAny (model prog w) A (getMethod (.str x t) "encode" pl) Q E s := by
  with_reducible exact getMethod_builtin (typeIs_str _ _ _) PySem.F.plainAttrs_str PySem.F.slot_str_encode PySem.F.type_str_encode (fun _ e => nomatch e) h
theorem read_ct (w : World) (mean : ExcName → Option Value) (mg mb : Str → Option Value) : ∀ d, TellsN PySem.Challenge.rw_xn0010_01.row.prog w (hd.heap_1_39 w.params) hd.view_1_40 LS mean mg mb 183 (readT w) d := by
  w_on
  k_fill
  intro d
  have WC := worth_ct w mean mg mb
  have PC := paren_ct w mean mg mb
  unfold TellsN
  intro dp un gd cn cs a ccd cl outer A₀ base h₀ L m news s vs Q E B F X N T hk hR hok hd hu hret
  obtain @⟨cs0, t0⟩ := hR
  dsimp only [readT] at hd hu
  refine wpAny_call ?_
  k_dflt (k_extra "own_my_center")
  refine wp_never ?_
  rename Obj.data _ = Data.cell _ => dT0
  have dT : _ = Data.cell (some (Value.str ⟨cs0.toArray⟩ t0)) := dT0
  revert dT0 dT
  rename Obj.data _ = Data.cell _ => dP0
  have dP : _ = Data.cell none := dP0
  intro dT0 dT
  k_with "storeName" => ((with_reducible show wpAny _ _ (storeName _ (Str.ofString "place") _) _ _ _); k_dflt (refine storeX_C (by k_asm) (by k_asm) (by rfl) (by k_updF) (by first | assumption | exact dP) ?_); intro h3 o3 F3 N3 d3; (try dsimp only at N3))
  k_with "exec While Compare cons nil" => (
    (with_reducible show wpAny _ _ (exec (.While (.Compare (.Name _ _) _ _ _) _ _ _) _) _ _ _)
    k_dflt (refine read_loop (cs0 := cs0) (by k_asm) (by k_asm) (by exact rfl) (by assumption) d3 (fun c u5 h5 tk5 P5 R5 hp5 F5 N5 hP5 hR5 => ?_))
    obtain ⟨pre, post, pl, tp, oP, vs, ws, n1, n2, ow, kvs, D, dep, td⟩ := c
    obtain ⟨e0, e1, e2, dPl, iv, iw, ed, hw, hf, hDl, hlk⟩ := hp5
    dsimp only [RdLed] at e0 e1 e2 dPl iv iw ed hw hf hDl hlk F5 N5
    have hLn : (⟨cs0.toArray⟩ : Str).length = cs0.length := (by simp [Str.length])
    have hc100 : cs0.length ≤ 100 := hok.1
    have hvl := iv.length
    have hwl := iw.length
    rw [List.length_map, scan_len] at hvl hwl
    clear N3 d3 dP dP0 dT0
    rcases post with _ | ⟨ch, post⟩
    (have e2' := e2 rfl)
    rotate_left
    (have e1' := e1 (by simp))
    subst e1'
    have hlen5 : cs0.length = pre.length + (post.length + 1) := (by rw [e0]; simp)
    have hch := chain_at pre ch post (by rw [← e0]; exact hok.2)
    have hA0 : pre.length ≤ cs0.length := (by rw [hlen5]; exact Nat.le_add_right _ _)
    have hA1 : pre.length + 1 ≤ cs0.length := (by rw [hlen5]; exact Nat.add_le_add_left (Nat.le_add_left _ _) _)
    have hZ : cs0.length ≤ 1000 := Nat.le_trans hc100 (by decide)
    have hVs : vs.length ≤ 10000 := (by rw [hvl]; exact Nat.le_trans hA0 (Nat.le_trans hZ (by decide)))
    have hWs : ws.length ≤ 10000 := (by rw [hwl]; exact Nat.le_trans hA0 (Nat.le_trans hZ (by decide)))
    have hDs : D.length ≤ 1000 := Nat.le_trans hDl (Nat.le_trans hA0 hZ)
    have f1 := f_1 e0
    have f2 := f_2 e0
    have f3 := f_3 e0
    have f4 := f_4 e0
    rcases Bool.eq_false_or_eq_true (isLet ch) with hl | hl
    rotate_left
    (have hlF := hl)
    have hsg := sg_lt hch.1 hl
    have g5 := sg_g hsg
    have k1 := yes_one hsg
    rcases post with _ | ⟨d2, post⟩
    (have f5 := (f3 : _ = [ch]))
    (have f6 := (f4 : _ = [ch]))
    have k2 := k1
    rotate_left
    (have f5 := (f3 : _ = [ch, d2]))
    (have f6 := (f4 : _ = ch :: d2 :: post.take 1))
    have hd2 := hch.2 d2 post rfl
    have k3 := (two_facts hd2.1 hd2.2.1 hd2.2.2).1
    have k4 := (two_facts hd2.1 hd2.2.1 hd2.2.2).2
    rotate_left
    rotate_left
    (have hlT := hl)
    have g1 := let_g1 hl
    have g2 := let_g2 hl
    have g3 := nx_g hl hch.2
    have wok : worthT.Ok ⟨Str.ofString " ", ⟨[ch].toArray⟩⟩ := (by
      have h1 := of_decide_eq_true hl
      refine ⟨(show (1 : Nat) ≤ 8 by decide), fun c hc => ?_⟩
      have : c = ch := by simpa using hc
      subst this; omega))
  have q6 : dp + 1 + 1 < recursionLimit := by omega
  have q7 : un + 3 + 8 * 1 < cLine := by omega
  k_with "subscriptTail Name Slice str ref" => (k_dflt (first
    | refine sl_at (s := ⟨_, _, _, _, _⟩) pre.length (pre.length + 1) [ch] (by k_asm) (by k_asm) (by first | rfl | omega) (by first | rfl | omega) (Nat.le_add_right _ _) hA0 f1 hZ ?_
    | refine sl_at (s := ⟨_, _, _, _, _⟩) (pre.length + 1) (pre.length + 2) (post.take 1) (by k_asm) (by k_asm) (by first | rfl | omega) (by first | rfl | omega) (Nat.le_succ _) hA1 f2 hZ ?_
    | refine sl_at (s := ⟨_, _, _, _, _⟩) pre.length (pre.length + 2) _ (by k_asm) (by k_asm) (by first | rfl | omega) (by first | rfl | omega) (Nat.le_add_right _ _) hA0 f5 hZ ?_
    | refine sl_at (s := ⟨_, _, _, _, _⟩) pre.length (pre.length + 3) _ (by k_asm) (by k_asm) (by first | rfl | omega) (by first | rfl | omega) (Nat.le_add_right _ _) hA0 f6 hZ ?_); intro h6 t6 k6 F6 N6)
  k_with "compareOp LtE str str" => (k_dflt (first | refine le_strB true g1 ?_ | refine le_strB true g2 ?_ | refine le_strB false g3 ?_ | refine le_strB false g5 ?_))
  k_with "exec While Compare cons nil" => (
    (with_reducible show wpAny _ _ (exec (.While (.Compare (.Constant _ _ _) _ _ _) _ _ _) _) _ _ _)
    first
      | (have hlT' := hlT
         k_dflt (refine end_loop 1 pre.length (by k_asm) (by k_asm) (by exact rfl) (fun c u6 h6 tk6 P6 hk6 F6 N6 hP6 => ?_))
         obtain ⟨ce, te⟩ := c
         dsimp only at hk6 F6
         rcases Nat.lt_or_ge ce 1 with hce | hce
         (obtain rfl : ce = 0 := (by omega))
         rotate_left
         (obtain rfl : ce = 1 := (by omega)))
      | (have hlF' := hlF
         k_dflt (refine end_loop 0 pre.length (by k_asm) (by k_asm) (by exact rfl) (fun c u6 h6 tk6 P6 hk6 F6 N6 hP6 => ?_))
         obtain ⟨ce, te⟩ := c
         dsimp only at hk6 F6
         (obtain rfl : ce = 0 := (by omega))))
  k_with "getMethod str" => (with_reducible refine m_encode ?_)
  k_with "call builtin:str.encode" => (k_dflt (refine encode1 hch.1 ?_; intro t7 k7))
  k_with "subscriptTail Name Subscript ref str" => (k_dflt (refine tt_item (td_here (by k_asm) (by k_asm)) hsg ?_; intro t7))
  k_with "compareOp In str ref" => (k_dflt (first | refine tt_in true (td_here (by k_asm) (by k_asm)) k1 ?_ | refine tt_in false (td_here (by k_asm) (by k_asm)) k3 ?_ | refine tt_in false (td_here (by k_asm) (by k_asm)) k4 ?_))
  k_with "setItem ref int str" => (k_dflt (refine words_set (by k_asm) (by k_asm) (by k_updF) hw hf hDs ?_); intro h7 o7 kvs7 F7 N7 hw7 hf7; (try dsimp only at N7))
  k_with "eval ListComp" => (k_dflt (refine ListComp_Tt (F₀ := by k_asm) (by with_unfolding_all rfl) (by decide) (by rfl) (by decide) (by rfl) ?_))
  k_with "SrcTT" => (k_dflt (refine SrcTT.mk (by rfl) (by k_asm) (by k_asm) (by k_mem) 3 (by rfl) (by decide) ?_); intro g7)
  k_with "CompEnd" => (k_dflt (refine LCg.CompEnd.intro (by k_asm) (by k_asm) _ (fun p hp => hp) (by first | assumption | (with_unfolding_all assumption)) (by exact ⟨_, by k_mem⟩) ?_))
  k_with "call builtin:list.append" => (k_dflt (refine appL (by k_asm) (by k_asm) (by k_upd) (by first | exact hVs | exact hWs | omega) ?_); intro h6 F6 N6)
  k_with "call ref" => ((with_reducible show wpAny _ _ (call (Value.ref 178) _) _ _ _); k_dflt (refine tellsN_use (c := worthT) (by k_asm) (by k_asm) (by k_asm) (by k_asm) (by k_asm) (by first | exact rfl | assumption) (by first | (exact .mk (by k_mem)) | fail "rel") (WC _) (by first | (exact wok) | fail "ok") (by exact q6) (by exact q7) ?_); intro r9 tl9 h9 tk9 F9 N9 hl9 ht9 ho9; (try dsimp only); obtain ⟨t9', e9'⟩ := ho9; subst e9'; subst ht9; (try simp only [List.append_nil] at N9))
  k_with "call ref" => ((with_reducible show wpAny _ _ (call (Value.ref 159) _) _ _ _); k_dflt (refine tellsN_use (c := parT) (by k_asm) (by k_asm) (by k_asm) (by k_asm) (by k_asm) (by first | exact rfl | assumption) (by first | (exact .mk) | fail "rel") (PC _) (by first | (exact trivial) | fail "ok") (by exact q6) (by exact q7) ?_); intro r9 tl9 h9 tk9 F9 N9 hl9 ht9 ho9; (try dsimp only); obtain ⟨t9', e9'⟩ := ho9; subst e9'; subst ht9; (try simp only [List.append_nil] at N9))
  k_steps
  · refine hP5 _ _ ?_
    refine rd_end (n2' := n2 + 1) (n1' := n1 + 1) (by k_asm) (by k_asm) (fun p hp => List.mem_cons_of_mem _ hp) e0 hch.1 (letter_sym hl) rfl iv iw ed d3 (fun _ => by omega) (fun h => by subst h; simp at hlen5; omega) hw7 hf7 (Nat.le_trans (PyProof.V.putD_length_le _ _ _) (by omega)) (words_put hl (letter_sym hl) hlk) (by exact rfl) ?_
    intro z h1 h2
    simp [kstB, h1, h2]
  · refine hP6 _ _ ?_
    refine ksw_end (⟨1, _⟩ : Nat × Tok) (by k_asm) (by k_asm) (fun p hp => hp) trivial (one_in (Eq.trans (if_pos rfl) (some_int (show _ = (pre.length : Int) + ((1 : Nat) : Int) by omega)))) ?_ (Nat.le_refl 1) (show (1 : Nat) - 1 < 1 - 0 from by decide)
    intro z h1 h2
    have h3 : z ≠ Str.ofString "end" := h1 _ (.head _)
    simp [kstB, h3]
  · refine hP5 _ _ ?_
    refine rd_end (n2' := n2 + 1) (n1' := n1 + 1) (by k_asm) (by k_asm) (fun p hp => List.mem_cons_of_mem _ (List.mem_cons_of_mem _ hp)) e0 hch.1 rfl rfl iv iw ed d3 (fun h => absurd rfl h) (fun _ => by simp at hlen5; omega) hw hf (by omega) (words_keep hl hlk) (by exact rfl) ?_
    intro z h1 h2
    simp [kstB, h1, h2]
  · refine hP5 _ _ ?_
    refine rd_end (n2' := n2 + 1) (n1' := n1 + 1) (by k_asm) (by k_asm) (fun p hp => List.mem_cons_of_mem _ (List.mem_cons_of_mem _ hp)) e0 hch.1 rfl rfl iv iw ed d3 (fun _ => by omega) (fun h => nomatch h) hw hf (by omega) (words_keep hl hlk) (by exact rfl) ?_
    intro z h1 h2
    simp [kstB, h1, h2]
  · refine hR5 _ ?_
    dsimp only
    k_steps
    have e9 : cs0 = pre := by rw [e0, List.append_nil]
    refine hret _ _ _ _ (by k_asm) (rd_fin (by k_asm)) ?_ trivial (.mk (List.mem_append.mpr (.inr (.head _))) (List.mem_append.mpr (.inr (.tail _ (.tail _ (.tail _ (.head _)))))) (List.mem_append.mpr (.inr (.tail _ (.tail _ (.head _))))) (List.mem_append.mpr (.inr (.tail _ (.head _)))) (by assumption) (by rw [e9]; exact iv) (by rw [e9]; exact iw) hw hf (by rw [e9]; exact hlk))
    exact ord4 (by assumption : _ ∧ _ ∧ _ ∧ _ ∧ _ ∧ AllLt _ news).2.2.2.2.2 (by assumption : _ ∧ _ ∧ _ ∧ _ ∧ AllLt _ news).2.2.2.2 (by assumption : _ ∧ _ ∧ _ ∧ AllLt _ news).2.2.2 (by assumption : _ ∧ _ ∧ AllLt _ news).2.2
end

section
open PySem PySem.W PyProof.Rows PySem.Spec PySem.Calls
set_option Elab.async false
set_option maxRecDepth 100000
set_option maxHeartbeats 2000000
set_option linter.all false
section
variable {prog : Program} {w : World} {A : Around} {E : Value → Shared → Prop} {s : Shared} {env : Env} {h₀ : Heap} {xi xc : Str} {body : List Stmt} {Q : Flow → Shared → Prop}
theorem enum_any {l : Addr} {vs : List Value} {ns : List Int} {nn : Nat} {m₀ : Str → Option Value} {news : List (Addr × Obj)} (J : Nat → (Str → Option Value) → List (Addr × Obj) → Prop)
    (hh : A.handled = none) (hi : IntsAre vs ns) (F : Fr h₀ env.locals s.heap m₀) (N : News h₀ env.locals s.heap ((l, listOf vs.toArray nn) :: news)) (hne : ∀ q ∈ news, q.1 ≠ l) (hj : J 0 m₀ news)
    (turn : ∀ (i : Nat) a t u m₁ news₁ h tk own, ns[i]? = some a → J i m₁ news₁ → (∀ p ∈ own, ∀ q ∈ news, p.1 ≠ q.1) → Fr h₀ env.locals h (fun y => if y = xc then some (.int a u) else if y = xi then some (.int i t) else m₁ y) → News h₀ env.locals h (own ++ news₁) → news₁.map (·.1) = news.map (·.1) →
      wpAny (model prog w) A (execs body env) (LoopStep3 h₀ env.locals own news₁ (J (i + 1)) { s with heap := h, toks := tk } (fun v s' => Q (.ret v) s') fun s' => Q .next s') E { s with heap := h, toks := tk })
    (done : ∀ h tk m₁ news₁, Fr h₀ env.locals h m₁ → News h₀ env.locals h news₁ → J ns.length m₁ news₁ → Q .next { s with heap := h, toks := tk }) :
    wpAny (model prog w) A (call (.type "enumerate") [.ref l]) (fun xv s₁ => wpAny (model prog w) A (pyIter xv) (fun it s₂ => PairAt3 prog w A h₀ env xi xc body Q E it s₂) E s₁) E s := by
  have hol := (N _ (.head _)).1
  have N₀ : News h₀ env.locals s.heap news := fun p hp => N p (.tail _ hp)
  have hls : s.heap.IsList l vs.toArray := ⟨_, hol, rfl, nn, rfl⟩
  have hl2 : l < s.heap.objs.size := Heap.lt_size hol
  have hLs : env.locals < s.heap.objs.size := F.ns.lt
  have hab : h₀.objs.size ≤ env.locals := F.above
  refine call_enumerate_list hls fun h' he hit hsz hk => ?_
  have F' : Fr h₀ env.locals h' m₀ := F.keeps hk
  have N' : News h₀ env.locals h' news := N₀.grown hk
  refine enumSrc (K := ItemKind.int) (as := ns) (Draws.list (A := A.in1) hh s.heap.objs.size l (Nat.ne_of_lt hl2) vs.toArray) he ⟨hit, hls.at fun o e => hk l o e⟩ (Nat.succ_ne_self _) ?_ (by simp) ?_
    (Heap.get?_none_of_le (Nat.le_trans hab (Nat.le_of_lt (Nat.lt_succ_of_lt hLs)))) (Heap.get?_none_of_le (Nat.le_trans hab (Nat.le_of_lt hLs))) ?_ (by simp [hi.length]) (fun i x hx => ?_) F' N' xi xc body Q J hj ?_ ?_
  · intro hm
    rcases List.mem_cons.mp hm with e | hm
    · exact Nat.succ_ne_self _ e
    · exact Nat.ne_of_gt (Nat.lt_succ_of_lt hl2) (List.mem_singleton.mp hm)
  · intro hm
    rcases List.mem_cons.mp hm with e | hm
    · exact Nat.ne_of_lt (Nat.lt_succ_of_lt hLs) e
    · rcases List.mem_cons.mp hm with e | hm
      · exact Nat.ne_of_lt hLs e
      · exact (N _ (.head _)).2.1 (List.mem_singleton.mp hm).symm
  · intro b hb q hq e
    have hq1 : q.1 < s.heap.objs.size := Heap.lt_size (N₀ q hq).1
    rcases List.mem_cons.mp hb with e1 | hb
    · exact Nat.ne_of_gt (Nat.lt_succ_of_lt hq1) (e1.symm.trans e)
    · rcases List.mem_cons.mp hb with e1 | hb
      · exact Nat.ne_of_gt hq1 (e1.symm.trans e)
      · exact hne q hq ((List.mem_singleton.mp hb).symm.trans e).symm
  · have hx' : vs[i]? = some x := by simpa using hx
    have hi2 : i < ns.length := by
      rw [← hi.length]
      exact (List.getElem?_eq_some_iff.mp hx').1
    obtain ⟨t, ht⟩ := hi.get i ns[i] (List.getElem?_eq_getElem hi2)
    rw [ht] at hx'
    exact ⟨ns[i], List.getElem?_eq_getElem hi2, t, (Option.some.inj hx').symm⟩
  · rintro i a t v m₁ news₁ s₁ own ⟨hh', tk', rfl⟩ ha ⟨u, rfl⟩ hJ hmap hown F₁ N₁
    exact turn i a t u m₁ news₁ hh' tk' own ha hJ hown F₁ N₁ hmap
  · intro h₂ tk m' news' F₂ N₂ _ hJ
    exact done h₂ _ m' news' F₂ N₂ hJ
end
theorem pick_to {vs : List Value} {k : Int} (h : 0 ≤ k) : kms_pick vs none (some k) = vs.take k.toNat := by
  unfold kms_pick kms_lo kms_hi
  dsimp only
  rw [if_neg (by omega), Nat.sub_zero, List.drop_zero]
  by_cases e : k.toNat ≤ vs.length
  · rw [Nat.min_eq_left e]
  · rw [Nat.min_eq_right (by omega), List.take_of_length_le (Nat.le_refl _), List.take_of_length_le (by omega)]
theorem pick_from {vs : List Value} {k : Int} (h : 0 ≤ k) : kms_pick vs (some k) none = vs.drop k.toNat := by
  unfold kms_pick kms_lo kms_hi
  dsimp only
  rw [if_neg (by omega)]
  by_cases e : k.toNat ≤ vs.length
  · rw [Nat.min_eq_left e, List.take_of_length_le (by rw [List.length_drop]; omega)]
  · rw [Nat.min_eq_right (by omega), List.drop_of_length_le (Nat.le_refl _), List.drop_of_length_le (by omega)]; simp
section
variable {prog : Program} {w : World} {A : Around} {E : Value → Shared → Prop} {s : Shared} {h₀ : Heap} {L l : Addr} {m : Str → Option Value} {news : List (Addr × Obj)} {value slice : PySem.Expr} {vs : List Value} {k : Int} {u : Tok} {Q : Value → Shared → Prop}
theorem sl_to (F : Fr h₀ L s.heap m) (N : News h₀ L s.heap news) (hl : s.heap.IsList l vs.toArray) (hk : 0 ≤ k) (hz : vs.length ≤ 1000)
    (h : ∀ D h', Fr h₀ L h' m → News h₀ L h' ((D, listOf (vs.take k.toNat).toArray 0) :: news) → (∀ p ∈ news, p.1 < D) → Q (.ref D) { s with heap := h' })
    (hs : subscripted slice false (.ref l) (.ref s.heap.objs.size) = operate [.ref s.heap.objs.size, .ref l] (getItem (.ref l) (.ref s.heap.objs.size)) := by with_unfolding_all rfl) (ht : ∀ r, letTemporaryGo value (.ref l) r = pure () := by intro _; with_unfolding_all rfl) :
    wpAny (model prog w) A (subscriptTail value slice (.ref l) (.ref s.heap.objs.size)) Q E { s with heap := s.heap.push { cls := .type "slice", data := .fields #[.none, .int k u, .none] } } :=
  kms_slice_lit F N hl (by constructor) (by constructor) (pick_to hk) h hs ht (by rw [List.size_toArray]; unfold sizeLine; omega)
theorem sl_from (F : Fr h₀ L s.heap m) (N : News h₀ L s.heap news) (hl : s.heap.IsList l vs.toArray) (hk : 0 ≤ k) (hz : vs.length ≤ 1000)
    (h : ∀ D h', Fr h₀ L h' m → News h₀ L h' ((D, listOf (vs.drop k.toNat).toArray 0) :: news) → (∀ p ∈ news, p.1 < D) → Q (.ref D) { s with heap := h' })
    (hs : subscripted slice false (.ref l) (.ref s.heap.objs.size) = operate [.ref s.heap.objs.size, .ref l] (getItem (.ref l) (.ref s.heap.objs.size)) := by with_unfolding_all rfl) (ht : ∀ r, letTemporaryGo value (.ref l) r = pure () := by intro _; with_unfolding_all rfl) :
    wpAny (model prog w) A (subscriptTail value slice (.ref l) (.ref s.heap.objs.size)) Q E { s with heap := s.heap.push { cls := .type "slice", data := .fields #[.int k u, .none, .none] } } :=
  kms_slice_lit F N hl (by constructor) (by constructor) (pick_from hk) h hs ht (by rw [List.size_toArray]; unfold sizeLine; omega)
end
theorem ints_take {vs : List Value} {ns : List Int} (h : IntsAre vs ns) : ∀ k, IntsAre (vs.take k) (ns.take k) := by
  induction h with
  | nil => intro k; simp; exact .nil
  | cons n t _ ih =>
    intro k
    cases k with
    | zero => exact .nil
    | succ k => exact .cons n t (ih k)
/-- the numbers: five, not below nought, bounded -/
noncomputable def FiveOk (b : Int) (ns : List Int) : Prop := ns.length = 5 ∧ ∀ x ∈ ns, 0 ≤ x ∧ x ≤ b
theorem five_set {b c x : Int} {ns : List Int} {k : Nat} (h : FiveOk b ns) (hb : b ≤ c) (h0 : 0 ≤ x) (h1 : x ≤ c) : FiveOk c (ns.set k x) := by
  refine ⟨by rw [List.length_set]; exact h.1, fun y hy => ?_⟩
  rcases List.mem_or_eq_of_mem_set hy with hy | rfl
  · have := h.2 y hy; omega
  · exact ⟨h0, h1⟩
theorem five_get {b : Int} {ns : List Int} {k : Nat} (h : FiveOk b ns) (hk : k < 5) : 0 ≤ ns.getD k 0 ∧ ns.getD k 0 ≤ b := by
  have hl : k < ns.length := by rw [h.1]; exact hk
  have e : ns.getD k 0 = ns[k] := by simp [List.getD_eq_getElem?_getD, hl]
  rw [e]; exact h.2 _ (List.getElem_mem _)
noncomputable def NumPost (h₀ : Heap) (L nl : Addr) (own : List (Addr × Obj)) (b : Int) (s₁ : Shared) (Q : Flow → Shared → Prop) (f : Flow) (s₂ : Shared) : Prop :=
  match f with
  | .ret v => Q (.ret v) s₂
  | .brk => Q .next s₂
  | _ => ∃ h' tk m' us ks n, s₂ = { s₁ with heap := h', toks := tk } ∧ Fr h₀ L h' m' ∧ News h₀ L h' ((nl, listOf (List.toArray us) n) :: own) ∧ IntsAre us ks ∧ FiveOk b ks ∧ m' (Str.ofString "numbers") = some (.ref nl)
theorem NumPost.next {h₀ : Heap} {L nl : Addr} {own led : List (Addr × Obj)} {b : Int} {s₁ : Shared} {Q : Flow → Shared → Prop} {h' : Heap} {tk : Nat} {m' : Str → Option Value} {us : List Value} {ks : List Int} {n : Nat}
    (F : Fr h₀ L h' m') (N : News h₀ L h' led) (hs : ∀ p ∈ (nl, listOf us.toArray n) :: own, p ∈ led) (hi : IntsAre us ks) (hf : FiveOk b ks) (hm : m' (Str.ofString "numbers") = some (.ref nl)) : NumPost h₀ L nl own b s₁ Q .next { s₁ with heap := h', toks := tk } :=
  ⟨h', tk, m', us, ks, n, rfl, F, fun p hp => N p (hs p hp), hi, hf, hm⟩
theorem kst_is' {m₁ : Str → Option Value} {ps : List (Str × Value)} (h : ∀ p ∈ ps, m₁ p.1 = some p.2) : m₁ = kstB m₁ ps := funext fun _ => (kstB_eq h fun _ => rfl).symm
section
variable {prog : Program} {w : World} {A : Around} {E : Value → Shared → Prop} {s : Shared} {env : Env} {h₀ : Heap} {xi xc : Str} {body : List Stmt} {Q : Flow → Shared → Prop}
theorem numbers_loop {l nl : Addr} {vs us₀ : List Value} {ns ks₀ : List Int} {nn n₀ : Nat} {m₀ : Str → Option Value}
    (hh : A.handled = none) (hi : IntsAre vs ns) (hn : ns.length ≤ 15) (F : Fr h₀ env.locals s.heap m₀) (N : News h₀ env.locals s.heap [(l, listOf vs.toArray nn), (nl, listOf us₀.toArray n₀)]) (hne : nl ≠ l) (hi₀ : IntsAre us₀ ks₀) (hf₀ : FiveOk 100 ks₀) (hm₀ : m₀ (Str.ofString "numbers") = some (.ref nl))
    (turn : ∀ (i : Nat) a t u us ks n m₁ h tk own, i < 15 → IntsAre us ks → FiveOk (100 + (i : Int) * 1000000) ks → (∀ p ∈ own, p.1 ≠ nl) → Fr h₀ env.locals h (fun y => if y = xc then some (.int a u) else if y = xi then some (.int (i : Int) t) else kstB m₁ [(Str.ofString "numbers", .ref nl)] y) → News h₀ env.locals h ((nl, listOf us.toArray n) :: own) →
      wpAny (model prog w) A (execs body env) (NumPost h₀ env.locals nl own (100 + ((i : Int) + 1) * 1000000) { s with heap := h, toks := tk } Q) E { s with heap := h, toks := tk })
    (done : ∀ h tk m₁ us ks n, IntsAre us ks → FiveOk 15000100 ks → Fr h₀ env.locals h (kstB m₁ [(Str.ofString "numbers", .ref nl)]) → News h₀ env.locals h [(nl, listOf us.toArray n)] → Q .next { s with heap := h, toks := tk }) :
    wpAny (model prog w) A (call (.type "enumerate") [.ref l]) (fun xv s₁ => wpAny (model prog w) A (pyIter xv) (fun it s₂ => PairAt3 prog w A h₀ env xi xc body Q E it s₂) E s₁) E s := by
  refine enum_any (fun i m₁ news₁ => ∃ us ks n, news₁ = [(nl, listOf (List.toArray us) n)] ∧ IntsAre us ks ∧ FiveOk (100 + (i : Int) * 1000000) ks ∧ m₁ (Str.ofString "numbers") = some (.ref nl)) hh hi F N (fun q hq => by rw [List.mem_singleton.mp hq]; exact hne) ⟨us₀, ks₀, n₀, rfl, hi₀, by simpa using hf₀, hm₀⟩ ?_ ?_
  · rintro i a t u m₁ news₁ h tk own ha ⟨us, ks, n, rfl, hi', hf', hm'⟩ hown F₁ N₁ -
    have hi15 : i < 15 := Nat.lt_of_lt_of_le (List.getElem?_eq_some_iff.mp ha).1 hn
    rw [kst_is' (one_in hm')] at F₁
    have N₂ : News h₀ env.locals h ((nl, listOf us.toArray n) :: own) := fun p hp => N₁ p (by
      rcases List.mem_cons.mp hp with rfl | hp
      · exact List.mem_append.mpr (.inr (.head _))
      · exact List.mem_append.mpr (.inl hp))
    refine wpAny_mono (turn i a t u us ks n m₁ h tk own hi15 hi' hf' (fun p hp => hown p hp (nl, listOf us₀.toArray n₀) (.head _)) F₁ N₂) (fun f s₂ q => ?_) fun _ _ e => e
    have fin : (∃ h' tk' m' us ks n, s₂ = { ({ s with heap := h, toks := tk } : Shared) with heap := h', toks := tk' } ∧ Fr h₀ env.locals h' m' ∧ News h₀ env.locals h' ((nl, listOf (List.toArray us) n) :: own) ∧ IntsAre us ks ∧ FiveOk (100 + ((i : Int) + 1) * 1000000) ks ∧ m' (Str.ofString "numbers") = some (.ref nl)) →
        LoopStep2 h₀ env.locals own [(nl, listOf us.toArray n)] (fun m₁ news₁ => ∃ us ks n, news₁ = [(nl, listOf (List.toArray us) n)] ∧ IntsAre us ks ∧ FiveOk (100 + ((i + 1 : Nat) : Int) * 1000000) ks ∧ m₁ (Str.ofString "numbers") = some (.ref nl)) { s with heap := h, toks := tk } .next s₂ := by
      rintro ⟨h', tk', m', us', ks', n', rfl, F', N', hi9, hf9, hm9⟩
      refine LoopStep2.intro (news₂ := [(nl, listOf us'.toArray n')]) F' (fun p hp => N' p ?_) rfl ⟨us', ks', n', rfl, hi9, by simpa using hf9, hm9⟩
      rcases List.mem_append.mp hp with hp | hp
      · exact .tail _ hp
      · rw [List.mem_singleton.mp hp]; exact .head _
    cases f with
    | ret v => exact q
    | brk => exact q
    | next => exact fin q
    | cont => exact fin q
  · rintro h tk m₁ news₁ F₁ N₁ ⟨us, ks, n, rfl, hi', hf', hm'⟩
    rw [kst_is' (one_in hm')] at F₁
    refine done h tk m₁ us ks n hi' ⟨hf'.1, fun x hx => ?_⟩ F₁ N₁
    have := hf'.2 x hx
    have h15 : (ns.length : Int) ≤ 15 := by omega
    omega
end
end

section
open PySem PySem.W PyProof.Rows PySem.Spec PySem.Calls
set_option Elab.async false
set_option maxRecDepth 100000
set_option maxHeartbeats 2000000
set_option linter.all false
open LCg
theorem apL_small {n : Nat} (h0 : 0 < n) (h1 : n < 16) : apL n = [(65 + n).toUInt8] := by
  rw [apL_pos (by omega), show n / 16 = 0 by omega, apL_zero, show n % 16 = n by omega]; rfl
theorem leaf_text {j : Nat} (h : j < 15) : bText (apL (j + 1)) = ⟨(Tr.leaf j).txt.toArray⟩ := by
  rw [apL_small (by omega) (by omega)]
  have e : (65 + (j + 1)).toUInt8.toNat = 66 + j := by
    show (65 + (j + 1)) % 256 = 66 + j
    omega
  unfold bText
  simp only [List.map_cons, List.map_nil, e]
  rfl
noncomputable def WTree (news : List (Addr × Obj)) (v : Value) (t : Tr) : Prop := ∃ q t1 vt n, v = .ref q ∧ (q, tupO [.str ⟨t.txt.toArray⟩ t1, vt] n) ∈ news ∧ TreeIn news vt t
theorem WTree.mono {news news' : List (Addr × Obj)} {v : Value} {t : Tr} (h : WTree news v t) (hs : ∀ p ∈ news, p ∈ news') : WTree news' v t := by
  obtain ⟨q, t1, vt, n, e, hm, ht⟩ := h; exact ⟨q, t1, vt, n, e, hs _ hm, ht.mono hs⟩
noncomputable def leafOf (k : Int) : Tr := .leaf (k.fmod 15).toNat
section
variable {prog : Program} {w : World} {A : Around} {E : Value → Shared → Prop} {s : Shared} {h₀ : Heap} {L : Addr} {m : Str → Option Value} {env : Env}
theorem restU_ind {elt : PySem.Expr} {x : Str} {scope : Scope} {cl : List (Str × Addr)} {S : List (Addr × Obj) → Prop} {P : Nat → Value → Prop} {Fin : List Value → List (Addr × Obj) → Prop} (J : Nat → List Value → List (Addr × Obj) → Prop) (n : Nat)
    (step : ∀ i ys news, i < n → J i ys news → ∀ v I oI C oC D m₂ h tk (E' : Value → Shared → Prop), P i v → NsObj oC m₂ → m₂ x = some v → Fr h₀ L h m → News h₀ L h ((I, oI) :: (C, oC) :: (D, lst ys) :: news) → Off3 I C D news → ((@Ne Nat I C) ∧ (@Ne Nat I D) ∧ (@Ne Nat C D)) →
      wpAny (model prog w) A (eval elt (compEnvC scope cl C env)) (CompEnd h₀ L m { s with heap := h, toks := tk } I oI C oC D (lst ys) S (fun y news' => J (i + 1) (ys ++ [y]) news')) E' { s with heap := h, toks := tk })
    (fin : ∀ ys news, J n ys news → Fin ys news) :
    ∀ k i ys news, i + k = n → J i ys news → CompRest prog w A h₀ L m env elt x scope cl s S P Fin k i ys news
  | 0, i, ys, news, e, hj => CompRest.zero (fin _ _ (by rw [← e]; exact hj))
  | k + 1, i, ys, news, e, hj => CompRest.succ fun v I oI C oC D m₂ h tk E' a0 a1 a2 a4 a5 a6 a7 => by
    refine wpAny_mono (step i ys news (by omega) hj v I oI C oC D m₂ h tk E' a0 a1 a2 a4 a5 a6 a7) (fun y s₂ hc => ?_) fun _ _ e => e
    obtain ⟨h', tk', news', e1, e2, e3, e4, e5, e6⟩ := hc
    exact ⟨h', tk', news', e1, e2, e3, e4, e5, restU_ind J n step fin k (i + 1) _ _ (by omega) e6⟩
noncomputable def LeafJ (ks : List Int) (news0 : List (Addr × Obj)) (i : Nat) (ys : List Value) (nw : List (Addr × Obj)) : Prop :=
  ∃ own, nw = own ++ news0 ∧ (∀ p ∈ own, p.2.cls = .type "tuple") ∧ All2 (WTree own) ys ((ks.take i).map leafOf)
theorem leaf_end {I C D q ax : Addr} {oI oC : Obj} {ys : List Value} {own news0 : List (Addr × Obj)} {its : List Value} {n9 i tk : Nat} {ks : List Int} {k x : Int} {y : Str} {t1 t2 : Tok} {h' : Heap}
    (F : Fr h₀ L h' m) (N : News h₀ L h' ((q, tupO [.str y t1, .int x t2] 0) :: (I, oI) :: (C, oC) :: (D, lst ys) :: (own ++ news0))) (off : Off3 I C D (own ++ news0)) (lt : ∀ p ∈ (I, oI) :: (C, oC) :: (D, lst ys) :: (own ++ news0), p.1 < q) (hS : (ax, listOf its.toArray n9) ∈ news0)
    (hc : ∀ p ∈ own, p.2.cls = .type "tuple") (ha : All2 (WTree own) ys ((ks.take i).map leafOf)) (hk : ks[i]? = some k) (hy : y = ⟨(leafOf k).txt.toArray⟩) (hx : x = 256 + ((k.fmod 15).toNat : Int)) :
    CompEnd h₀ L m s I oI C oC D (lst ys) (SrcAt h₀ ax its.toArray) (fun y news' => LeafJ ks news0 (i + 1) (ys ++ [y]) news') (.ref q) { s with heap := h', toks := tk } := by
  subst hy hx
  refine CompEnd.intro F N ((q, tupO [.str ⟨(leafOf k).txt.toArray⟩ t1, .int (256 + ((k.fmod 15).toNat : Int)) t2] 0) :: (own ++ news0)) ?_ ?_ ?_ ?_
  · intro p hp
    simp only [List.mem_cons] at hp ⊢
    rcases hp with h | h | h | h | h
    · exact .inr (.inl h)
    · exact .inr (.inr (.inl h))
    · exact .inr (.inr (.inr (.inl h)))
    · exact .inl h
    · exact .inr (.inr (.inr (.inr h)))
  · refine Off3.of fun p hp => ?_
    rcases List.mem_cons.mp hp with rfl | hp
    · exact ⟨Nat.ne_of_gt (lt _ (.head _)), Nat.ne_of_gt (lt _ (.tail _ (.head _))), Nat.ne_of_gt (lt _ (.tail _ (.tail _ (.head _))))⟩
    · exact off.mem p hp
  · exact .inr ⟨_, .tail _ (List.mem_append.mpr (.inr hS)), rfl, _, rfl⟩
  · refine ⟨(q, _) :: own, rfl, fun p hp => ?_, ?_⟩
    · rcases List.mem_cons.mp hp with rfl | hp
      · rfl
      · exact hc p hp
    · have e : (ks.take (i + 1)).map leafOf = (ks.take i).map leafOf ++ [leafOf k] := by rw [List.take_add_one, hk, List.map_append]; rfl
      rw [e]
      exact (ha.mono fun x y hxy => hxy.mono fun p hp => .tail _ hp).append (.cons ⟨q, _, _, _, rfl, .head _, .leaf⟩ .nil)
end
section
variable {prog : Program} {w : World} {A : Around} {E : Value → Shared → Prop} {s : Shared} {h₀ : Heap} {L l : Addr} {m : Str → Option Value} {news : List (Addr × Obj)} {value slice : PySem.Expr} {vs : List Value} {k : Int} {u : Tok} {n : Nat} {Q : Value → Shared → Prop}
theorem sl_toN (F : Fr h₀ L s.heap m) (N : News h₀ L s.heap news) (hm : (l, listOf vs.toArray n) ∈ news) (hk : 0 ≤ k) (hz : vs.length ≤ 1000)
    (h : ∀ D h', Fr h₀ L h' m → News h₀ L h' ((D, listOf (vs.take k.toNat).toArray 0) :: news) → (∀ p ∈ news, p.1 < D) → Q (.ref D) { s with heap := h' })
    (hs : subscripted slice false (.ref l) (.ref s.heap.objs.size) = operate [.ref s.heap.objs.size, .ref l] (getItem (.ref l) (.ref s.heap.objs.size)) := by with_unfolding_all rfl) (ht : ∀ r, letTemporaryGo value (.ref l) r = pure () := by intro _; with_unfolding_all rfl) :
    wpAny (model prog w) A (subscriptTail value slice (.ref l) (.ref s.heap.objs.size)) Q E { s with heap := s.heap.push { cls := .type "slice", data := .fields #[.none, .int k u, .none] } } :=
  sl_to F N ⟨_, (N _ hm).1, rfl, _, rfl⟩ hk hz h hs ht
theorem sl_fromN (F : Fr h₀ L s.heap m) (N : News h₀ L s.heap news) (hm : (l, listOf vs.toArray n) ∈ news) (hk : 0 ≤ k) (hz : vs.length ≤ 1000)
    (h : ∀ D h', Fr h₀ L h' m → News h₀ L h' ((D, listOf (vs.drop k.toNat).toArray 0) :: news) → (∀ p ∈ news, p.1 < D) → Q (.ref D) { s with heap := h' })
    (hs : subscripted slice false (.ref l) (.ref s.heap.objs.size) = operate [.ref s.heap.objs.size, .ref l] (getItem (.ref l) (.ref s.heap.objs.size)) := by with_unfolding_all rfl) (ht : ∀ r, letTemporaryGo value (.ref l) r = pure () := by intro _; with_unfolding_all rfl) :
    wpAny (model prog w) A (subscriptTail value slice (.ref l) (.ref s.heap.objs.size)) Q E { s with heap := s.heap.push { cls := .type "slice", data := .fields #[.int k u, .none, .none] } } :=
  sl_from F N ⟨_, (N _ hm).1, rfl, _, rfl⟩ hk hz h hs ht
theorem item_v {v : Value} (N : News h₀ L s.heap news) (hm : (l, listOf vs.toArray n) ∈ news) (h0 : 0 ≤ k) (hfit : k < 2 ^ 63) (hx : vs[k.toNat]? = some v) (h : Q v s)
    (hs : subscripted slice false (.ref l) (.int k u) = operate [.ref l, .int k u] (getItem (.ref l) (.int k u)) := by with_unfolding_all rfl) :
    wpAny (model prog w) A (subscriptTail value slice (.ref l) (.int k u)) Q E s :=
  have hl : s.heap.IsList l vs.toArray := ⟨_, (N _ hm).1, rfl, _, rfl⟩
  tail_any hl.typeIs slot_list_getitem.lookup (wpAny_getItem_list hl h0 hfit (by simpa using hx) h) hs
end
theorem leaf_str {k : Int} : bText (apL (1 + k.fmod 15).natAbs) = ⟨(leafOf k).txt.toArray⟩ := by
  have h1 := fmod_lo k (n := 15) (by decide)
  have h2 := fmod_hi k (n := 15) (by decide)
  rw [show (1 + k.fmod 15).natAbs = (k.fmod 15).toNat + 1 by omega]
  exact leaf_text (by omega)
theorem leaf_good {k : Int} : (leafOf k).Good := by
  have h1 := fmod_lo k (n := 15) (by decide)
  have h2 := fmod_hi k (n := 15) (by decide)
  show (k.fmod 15).toNat < 15
  omega
noncomputable def lsum (ts : List Tr) : Nat := (ts.map Tr.leaves).sum
/-- the draw's list of trees -/
noncomputable def DrawJ (ls : Addr) (l4 : List Value) (n4 : Nat) (i : Nat) (m' : Str → Option Value) (nx : List (Addr × Obj)) : Prop :=
  ∃ tl tls ts n, (tl, listOf (List.toArray tls) n) ∈ nx ∧ (ls, listOf l4.toArray n4) ∈ nx ∧ (∀ p ∈ nx, p.2.cls = .type "list" ∨ p.2.cls = .type "tuple") ∧ All2 (WTree nx) tls ts ∧ (∀ t ∈ ts, t.Good) ∧ lsum ts = 5 ∧ ts.length + i = 5 ∧ m' (Str.ofString "trees") = some (.ref tl)
theorem draw_start {own : List (Addr × Obj)} {ls D nl : Addr} {us ys l4 : List Value} {ks : List Int} {n n4 : Nat} {m' : Str → Option Value} (hc : ∀ p ∈ own, p.2.cls = .type "tuple") (ha : All2 (WTree own) ys (ks.map leafOf)) (hk : ks.length = 5) (hm : m' (Str.ofString "trees") = some (.ref D)) :
    DrawJ ls l4 n4 0 m' ((ls, listOf l4.toArray n4) :: (D, lst ys) :: (own ++ [(nl, listOf us.toArray n)])) := by
  refine ⟨D, ys, ks.map leafOf, ys.length, .tail _ (.head _), .head _, ?_, ha.mono fun x y hxy => hxy.mono fun p hp => .tail _ (.tail _ (List.mem_append.mpr (.inl hp))), ?_, ?_, by rw [List.length_map]; exact hk, hm⟩
  · intro p hp
    simp only [List.mem_cons, List.mem_append, List.not_mem_nil, or_false] at hp
    rcases hp with rfl | rfl | h | rfl
    · exact .inl rfl
    · exact .inl rfl
    · exact .inr (hc p h)
    · exact .inl rfl
  · intro t ht
    obtain ⟨k, _, rfl⟩ := List.mem_map.mp ht
    exact leaf_good
  · unfold lsum
    rw [List.map_map]
    have : ∀ l : List Int, (l.map (Tr.leaves ∘ leafOf)).sum = l.length := by
      intro l
      induction l with
      | nil => rfl
      | cons x r ih => rw [List.map_cons, List.sum_cons, ih, List.length_cons]; show 1 + _ = _; omega
    rw [this]; exact hk
end

section
open PySem PySem.W PyProof.Rows PySem.Spec PySem.Calls
set_option Elab.async false
set_option maxRecDepth 100000
set_option maxHeartbeats 2000000
set_option linter.all false
section
variable {prog : Program} {w : World} {A : Around} {E : Value → Shared → Prop} {s : Shared} {a b k : Int} {t u : Tok} {value slice : PySem.Expr} {Q : Value → Shared → Prop}
theorem mod_abs (hb : 0 < b) (h : ∀ p t k, 0 ≤ p → p < b → Q (.int p t) { s with toks := k }) : wpAny (model prog w) A (binaryOp .Mod (.int a t) (.int b u)) Q E s :=
  mod_int' (by omega) (h _ _ _ (fmod_lo _ hb) (fmod_hi _ hb))
theorem item_sgc {k : Int} (h0 : 0 ≤ k) (h1 : k < 3) : Txt.item (Str.ofString "+-*") k = ⟨#[sgc k.toNat]⟩ := by
  have : k = 0 ∨ k = 1 ∨ k = 2 := by omega
  rcases this with rfl | rfl | rfl <;> decide +kernel
theorem sign_at (h0 : 0 ≤ k) (h1 : k < 3) (h : ∀ t tk, Q (.str ⟨#[sgc k.toNat]⟩ t) { s with toks := tk })
    (hs : subscripted slice false (.str (Str.ofString "+-*") t) (.int k u) = operate [.str (Str.ofString "+-*") t, .int k u] (getItem (.str (Str.ofString "+-*") t) (.int k u)) := by with_unfolding_all rfl)
    (ht : ∀ r, letTemporaryGo value (.str (Str.ofString "+-*") t) r = pure () := by intro _; with_unfolding_all rfl) :
    wpAny (model prog w) A (subscriptTail value slice (.str (Str.ofString "+-*") t) (.int k u)) Q E s := by
  have hlen : (Str.ofString "+-*").length = 3 := by decide
  refine item_str (by have : k = 0 ∨ k = 1 ∨ k = 2 := by omega
                      rcases this with rfl | rfl | rfl <;> decide) (by rw [hlen]; omega) (by rw [hlen]; omega) (fun _ => ?_) hs ht
  rw [item_sgc h0 h1]
  exact h _ _
end
theorem All2.take {α β : Type} {R : α → β → Prop} {xs : List α} {ys : List β} (h : All2 R xs ys) : ∀ k, All2 R (xs.take k) (ys.take k) := by
  induction h with
  | nil => intro k; simp; exact .nil
  | cons hr _ ih =>
    intro k
    cases k with
    | zero => exact .nil
    | succ k => exact .cons hr (ih k)
theorem All2.drop {α β : Type} {R : α → β → Prop} {xs : List α} {ys : List β} (h : All2 R xs ys) : ∀ k, All2 R (xs.drop k) (ys.drop k) := by
  induction h with
  | nil => intro k; simp; exact .nil
  | cons hr hrest ih =>
    intro k
    cases k with
    | zero => exact .cons hr hrest
    | succ k => exact ih k
theorem All2.left {α β : Type} {R : α → β → Prop} {xs : List α} {ys : List β} (h : All2 R xs ys) {i : Nat} (hi : i < ys.length) : ∃ x, xs[i]? = some x ∧ R x ys[i] := by
  have hl : i < xs.length := by rw [h.length]; exact hi
  obtain ⟨y, hy, hr⟩ := h.get (List.getElem?_eq_getElem hl)
  rw [List.getElem?_eq_getElem hi] at hy
  cases hy
  exact ⟨xs[i], List.getElem?_eq_getElem hl, hr⟩
theorem split_two {ts : List Tr} {p : Nat} (h : p + 1 < ts.length) : ts = ts.take p ++ ts[p] :: ts[p + 1] :: ts.drop (p + 2) := by
  rw [← List.drop_eq_getElem_cons, ← List.drop_eq_getElem_cons, List.take_append_drop]
theorem two_trees {nx : List (Addr × Obj)} {tls : List Value} {ts : List Tr} {p : Int} (h : All2 (WTree nx) tls ts) (h0 : 0 ≤ p) (h1 : p < (tls.length : Int) - 1) :
    ∃ q1 a1 v1 n1 T1 q2 a2 v2 n2 T2, tls[p.toNat]? = some (.ref q1) ∧ (q1, ({ cls := .type "tuple", data := .seq #[.str ⟨T1.txt.toArray⟩ a1, v1] n1 } : Obj)) ∈ nx ∧ TreeIn nx v1 T1 ∧ tls[(p + 1).toNat]? = some (.ref q2) ∧ (q2, ({ cls := .type "tuple", data := .seq #[.str ⟨T2.txt.toArray⟩ a2, v2] n2 } : Obj)) ∈ nx ∧ TreeIn nx v2 T2 ∧
      ts = ts.take p.toNat ++ T1 :: T2 :: ts.drop (p + 2).toNat := by
  have hl := h.length
  obtain ⟨x1, e1, q1, a1, v1, n1, rfl, m1, t1⟩ := h.left (i := p.toNat) (by omega)
  obtain ⟨x2, e2, q2, a2, v2, n2, rfl, m2, t2⟩ := h.left (i := p.toNat + 1) (by omega)
  refine ⟨q1, a1, v1, n1, _, q2, a2, v2, n2, _, e1, m1, t1, ?_, m2, t2, ?_⟩
  · rw [show (p + 1).toNat = p.toNat + 1 by omega]; exact e2
  · rw [show (p + 2).toNat = p.toNat + 2 by omega]
    exact split_two (by omega)
theorem lsum_app (a b : List Tr) : lsum (a ++ b) = lsum a + lsum b := by unfold lsum; rw [List.map_append, List.sum_append]
theorem lsum_cons (a : Tr) (b : List Tr) : lsum (a :: b) = a.leaves + lsum b := rfl
theorem txt_str {T1 T2 : Tr} {k : Nat} : Str.ofString "(" ++ ⟨T1.txt.toArray⟩ ++ ⟨#[sgc k]⟩ ++ ⟨T2.txt.toArray⟩ ++ Str.ofString ")" = (⟨(Tr.node k T1 T2).txt.toArray⟩ : Str) := by
  have e1 : (Str.ofString "(").cps = #[40] := by decide +kernel
  have e2 : (Str.ofString ")").cps = #[41] := by decide +kernel
  show (⟨((((Str.ofString "(").cps ++ T1.txt.toArray) ++ #[sgc k]) ++ T2.txt.toArray) ++ (Str.ofString ")").cps⟩ : Str) = _
  rw [e1, e2]
  congr 1
  apply Array.ext'
  simp [Tr.txt]
theorem leaves_le {ts : List Tr} {a b : List Tr} {T1 T2 : Tr} (h : ts = a ++ T1 :: T2 :: b) (hs : lsum ts = 5) : T1.leaves ≤ 5 ∧ T2.leaves ≤ 5 := by
  rw [h, lsum_app, lsum_cons, lsum_cons] at hs
  omega
theorem txt_small {T : Tr} (h : T.leaves ≤ 5) : (⟨T.txt.toArray⟩ : Str).length ≤ 17 := by
  have := txt_len T
  show T.txt.toArray.size ≤ 17
  rw [List.size_toArray]; omega
theorem draw_turn {h₀ h' : Heap} {L ls tn q : Addr} {l4 : List Value} {n4 i tk n n' : Nat} {m' : Str → Option Value} {nx own new led : List (Addr × Obj)} {s₁ : Shared} {Q : Flow → Shared → Prop} {tls : List Value} {ts : List Tr} {p wi : Int} {T1 T2 : Tr} {y : Str} {t1 : Tok} {vt : Value}
    (F : Fr h₀ L h' m') (N : News h₀ L h' led) (hs : ∀ p ∈ (new ++ nx) ++ own, p ∈ led) (hnew : ∀ p ∈ new, p.2.cls = .type "list" ∨ p.2.cls = .type "tuple")
    (htn : (tn, listOf (List.toArray (tls.take p.toNat ++ [.ref q] ++ tls.drop (p + 2).toNat)) n') ∈ new) (hq : (q, tupO [.str y t1, vt] n) ∈ new) (hy : y = ⟨(Tr.node wi.toNat T1 T2).txt.toArray⟩) (hvt : TreeIn (new ++ nx) vt (.node wi.toNat T1 T2))
    (hls : (ls, listOf l4.toArray n4) ∈ nx) (hcl : ∀ p ∈ nx, p.2.cls = .type "list" ∨ p.2.cls = .type "tuple") (hall : All2 (WTree nx) tls ts) (hgood : ∀ t ∈ ts, t.Good) (hsum : lsum ts = 5) (hlen : ts.length + i = 5)
    (hsp : ts = ts.take p.toNat ++ T1 :: T2 :: ts.drop (p + 2).toNat) (hw : wi.toNat < 3) (hm : m' (Str.ofString "trees") = some (.ref tn)) :
    AnyPost h₀ L (DrawJ ls l4 n4 (i + 1)) own s₁ Q .next { s₁ with heap := h', toks := tk } := by
  subst hy
  refine ⟨h', tk, m', new ++ nx, rfl, F, News.of_sub N hs, tn, _, ts.take p.toNat ++ [.node wi.toNat T1 T2] ++ ts.drop (p + 2).toNat, n', List.mem_append.mpr (.inl htn), List.mem_append.mpr (.inr hls), ?_, ?_, ?_, ?_, ?_, hm⟩
  · intro p hp
    rcases List.mem_append.mp hp with hp | hp
    · exact hnew p hp
    · exact hcl p hp
  · have up : ∀ x y, WTree nx x y → WTree (new ++ nx) x y := fun x y hxy => hxy.mono fun p hp => List.mem_append.mpr (.inr hp)
    exact (((hall.take _).mono up).append (.cons ⟨q, t1, vt, n, rfl, List.mem_append.mpr (.inl hq), hvt⟩ .nil)).append ((hall.drop _).mono up)
  · intro t ht
    have g : ∀ t ∈ ts.take p.toNat ++ T1 :: T2 :: ts.drop (p + 2).toNat, t.Good := by rw [← hsp]; exact hgood
    simp only [List.mem_append, List.mem_cons, List.not_mem_nil, or_false] at ht g
    rcases ht with (ht | rfl) | ht
    · exact g t (.inl ht)
    · exact ⟨hw, g T1 (.inr (.inl rfl)), g T2 (.inr (.inr (.inl rfl)))⟩
    · exact g t (.inr (.inr (.inr ht)))
  · have e : lsum ts = _ := congrArg lsum hsp
    rw [lsum_app, lsum_cons, lsum_cons] at e
    rw [lsum_app, lsum_app, lsum_cons]
    show _ + ((T1.leaves + T2.leaves) + 0) + _ = 5
    omega
  · have e : ts.length = _ := congrArg List.length hsp
    simp only [List.length_append, List.length_cons, List.length_nil] at e ⊢
    omega
theorem five_len {b : Int} {ns : List Int} (h : FiveOk b ns) : ns.length = 5 := h.1
theorem five_bd {b : Int} {ns : List Int} (h : FiveOk b ns) : ∀ x ∈ ns, 0 ≤ x ∧ x ≤ b := h.2
theorem All2.one {α β : Type} {R : α → β → Prop} {xs : List α} {ys : List β} (h : All2 R xs ys) (hl : ys.length = 1) : ∃ x y, xs = [x] ∧ ys = [y] ∧ R x y := by
  cases h with
  | nil => cases hl
  | @cons x y xs ys hr h =>
    have e : ys = [] := List.eq_nil_of_length_eq_zero (Nat.succ.inj hl)
    subst e
    have e : xs = [] := List.eq_nil_of_length_eq_zero h.length
    subst e
    exact ⟨x, y, rfl, rfl, hr⟩
theorem one_tree {nx : List (Addr × Obj)} {tls : List Value} {ts : List Tr} (h : All2 (WTree nx) tls ts) (hl : ts.length = 1) (hs : lsum ts = 5) (hg : ∀ t ∈ ts, t.Good) :
    ∃ q t1 vt n T, tls = [.ref q] ∧ (q, tupO [.str ⟨T.txt.toArray⟩ t1, vt] n) ∈ nx ∧ TreeIn nx vt T ∧ T.Good ∧ T.leaves = 5 := by
  obtain ⟨x, T, rfl, rfl, q, t1, vt, n, e, hm, ht⟩ := h.one hl
  exact ⟨q, t1, vt, n, T, by rw [e], hm, ht, hg T (.head _), hs⟩
section
variable {prog : Program} {w : World} {A : Around} {E : Value → Shared → Prop} {s : Shared} {h₀ : Heap} {L l : Addr} {news : List (Addr × Obj)} {vs : List Value} {n : Nat} {Q : Value → Shared → Prop}
theorem len_v (N : News h₀ L s.heap news) (hm : (l, listOf vs.toArray n) ∈ news) (hz : vs.length ≤ 1000) (h : ∀ t k, Q (.int (vs.length : Int) t) { s with toks := k }) : wpAny (model prog w) A (call (.builtin "len") [.ref l]) Q E s := by
  refine call_len_list (items := vs.toArray) ⟨_, (N _ hm).1, rfl, _, rfl⟩ (by rw [List.size_toArray]; omega) ?_
  rw [List.size_toArray]
  exact h _ _
theorem add_strs {x y : Str} {t u : Tok} (hz : x.length + y.length ≤ 1000) (h : ∀ t' tk, Q (.str (x ++ y) t') { s with toks := tk }) : wpAny (model prog w) A (binaryOp .Add (.str x t) (.str y u)) Q E s :=
  SBL.add (hsz := by unfold sizeLine; omega) fun t k _ => h t k
end
theorem len_app {x y : Str} {a b : Nat} (h1 : x.length ≤ a) (h2 : y.length ≤ b) : (x ++ y).length ≤ a + b := by
  show (x.cps ++ y.cps).size ≤ a + b
  rw [Array.size_append]
  exact Nat.add_le_add h1 h2
theorem draw_turn2 {h₀ h' : Heap} {L ls tn q a1 a2 a3 a4 tr : Addr} {b1 b2 b3 l4 : List Value} {n4 i tk k0 k1 k2 k3 k4 k5 k6 : Nat} {m' : Str → Option Value} {nx own : List (Addr × Obj)} {s₁ : Shared} {Q : Flow → Shared → Prop} {tls : List Value} {ts : List Tr} {p wi : Int} {T1 T2 : Tr} {t1 t2 : Tok} {v1 v2 : Value} {b4 : Array Value}
    (F : Fr h₀ L h' m') (N : News h₀ L h' ((tn, listOf (List.toArray (tls.take p.toNat ++ [.ref q] ++ tls.drop (p + 2).toNat)) k0) :: (a1, listOf b1.toArray k1) :: (a2, listOf b2.toArray k2) :: (a3, listOf b4 k3) ::
      (q, ({ cls := .type "tuple", data := .seq #[.str (Str.ofString "(" ++ ⟨T1.txt.toArray⟩ ++ Txt.item (Str.ofString "+-*") wi ++ ⟨T2.txt.toArray⟩ ++ Str.ofString ")") t1, .ref tr] k4 } : Obj)) :: (a4, listOf b3.toArray k5) :: (tr, ({ cls := .type "tuple", data := .seq #[.int (14 + wi) t2, v1, v2] k6 } : Obj)) :: (nx ++ own)))
    (hk4 : k4 = 0) (hv1 : TreeIn nx v1 T1) (hv2 : TreeIn nx v2 T2)
    (hls : (ls, listOf l4.toArray n4) ∈ nx) (hcl : ∀ p ∈ nx, p.2.cls = .type "list" ∨ p.2.cls = .type "tuple") (hall : All2 (WTree nx) tls ts) (hgood : ∀ t ∈ ts, t.Good) (hsum : lsum ts = 5) (hlen : ts.length + i = 5)
    (hsp : ts = ts.take p.toNat ++ T1 :: T2 :: ts.drop (p + 2).toNat) (hw0 : 0 ≤ wi) (hw1 : wi < 3) (hm : m' (Str.ofString "trees") = some (.ref tn)) :
    AnyPost h₀ L (DrawJ ls l4 n4 (i + 1)) own s₁ Q .next { s₁ with heap := h', toks := tk } := by
  subst hk4
  rw [item_sgc hw0 hw1] at N
  obtain ⟨wn, rfl⟩ := Int.eq_ofNat_of_zero_le hw0
  rw [Int.toNat_natCast] at N
  refine draw_turn (new := [(tn, listOf (List.toArray (tls.take p.toNat ++ [.ref q] ++ tls.drop (p + 2).toNat)) k0), (a1, listOf b1.toArray k1), (a2, listOf b2.toArray k2), (a3, listOf b4 k3), (q, ({ cls := .type "tuple", data := .seq #[.str (Str.ofString "(" ++ ⟨T1.txt.toArray⟩ ++ ⟨#[sgc wn]⟩ ++ ⟨T2.txt.toArray⟩ ++ Str.ofString ")") t1, .ref tr] 0 } : Obj)), (a4, listOf b3.toArray k5), (tr, ({ cls := .type "tuple", data := .seq #[.int (14 + (wn : Int)) t2, v1, v2] k6 } : Obj))])
    (wi := (wn : Int)) (p := p) F N (fun p hp => hp) ?_ (.head _) (.tail _ (.tail _ (.tail _ (.tail _ (.head _))))) txt_str ?_ hls hcl hall hgood hsum hlen hsp (by rw [Int.toNat_natCast]; omega) hm
  · intro p hp
    simp only [List.mem_cons, List.not_mem_nil, or_false] at hp
    rcases hp with rfl | rfl | rfl | rfl | rfl | rfl | rfl
    · exact .inl rfl
    · exact .inl rfl
    · exact .inl rfl
    · exact .inl rfl
    · exact .inr rfl
    · exact .inl rfl
    · exact .inr rfl
  · rw [Int.toNat_natCast]
    have up : ∀ x9 ∈ nx, x9 ∈ [(tn, listOf (List.toArray (tls.take p.toNat ++ [.ref q] ++ tls.drop (p + 2).toNat)) k0), (a1, listOf b1.toArray k1), (a2, listOf b2.toArray k2), (a3, listOf b4 k3), (q, ({ cls := .type "tuple", data := .seq #[.str (Str.ofString "(" ++ ⟨T1.txt.toArray⟩ ++ ⟨#[sgc wn]⟩ ++ ⟨T2.txt.toArray⟩ ++ Str.ofString ")") t1, .ref tr] 0 } : Obj)), (a4, listOf b3.toArray k5), (tr, ({ cls := .type "tuple", data := .seq #[.int (14 + (wn : Int)) t2, v1, v2] k6 } : Obj))] ++ nx := fun _ hp => List.mem_append.mpr (.inr hp)
    exact .node (n := k6) (t := t2) (List.mem_append.mpr (.inl (.tail _ (.tail _ (.tail _ (.tail _ (.tail _ (.tail _ (.head _)))))))))  (hv1.mono up) (hv2.mono up)
theorem num_bound {a b : Int} {ns : List Int} {i : Nat} {k : Nat} (h : FiveOk (100 + (i : Int) * 1000000) ns) (hk : k < 5) (ha : a = b.fmod (10 ^ 6)) : FiveOk (100 + ((i : Int) + 1) * 1000000) (ns.set k (ns.getD k 0 + a)) := by
  have h1 := fmod_lo b (n := 10 ^ 6) (by decide)
  have h2 := fmod_hi b (n := 10 ^ 6) (by decide)
  have h3 := five_get h hk
  have e : (10 : Int) ^ 6 = 1000000 := by decide
  rw [e] at h1 h2 ha
  exact five_set h (by omega) (by omega) (by omega)
end

section
open PySem PySem.W PyProof.Rows PySem.Spec PySem.Calls
set_option Elab.async false
set_option maxRecDepth 100000
set_option maxHeartbeats 2000000
set_option linter.all false
theorem fresh_E29 {prog : Program} {w : World} {A : Around} {E : Value → Shared → Prop} {s : Shared} {Q : Value → Shared → Prop} (h : wpAny (model prog w) A (call (.int 0 0) []) Q E s) : wpAny (model prog w) A (call (.int 0 0) []) Q E s := by
  k_with_none
  w_top off
  first | (walk1; fail) | exact h

theorem add_sm1 {α : Type} {l : List α} {x : α} {n : Nat} (h : l.length ≤ 5) : (l.take n).length + [x].length ≤ 10000 := by
  rw [List.length_take]
  exact Nat.le_trans (Nat.add_le_add (Nat.le_trans (Nat.min_le_right _ _) h) (Nat.le_refl 1)) (by decide)
theorem add_sm2 {α : Type} {l : List α} {x : α} {n k : Nat} (h : l.length ≤ 5) : (l.take n ++ [x]).length + (l.drop k).length ≤ 10000 := by
  rw [List.length_append, List.length_take, List.length_drop]
  exact Nat.le_trans (Nat.add_le_add (Nat.add_le_add (Nat.le_trans (Nat.min_le_right _ _) h) (Nat.le_refl 1)) (Nat.le_trans (Nat.sub_le _ _) h)) (by decide)
theorem draw_call (w : World) (mean : ExcName → Option Value) (mg mb : Str → Option Value) : ∀ {dp un : Nat} {gd : Option (List Code)} {cn : Str} {cs : Scope} {a : Addr} {ccd : Value} {cl : List (Str × Addr)} {outer : List Env} {A₀ : Around} {base h₀ : Heap} {L : Addr} {m : Str → Option Value} {s : Shared} {Q E : Value → Shared → Prop} {l : Addr} {vs : List Value} {ns : List Int}
    (B : Below A₀ base outer h₀) (F : Fr h₀ L s.heap m) (X : (hd.heap_1_39 w.params).In h₀) (N : News h₀ L s.heap []) (T : Top hd.view_1_40 LS mean mg mb h₀) (hk : cs.kind = .function) (hd1 : dp + 3 < recursionLimit) (hu : un + 24 < cLine)
    (hl : h₀.IsList l vs.toArray) (hi : IntsAre vs ns) (hn : ns.length ≤ 63)
    (h : ∀ h' k tl q (t : Tr) t1 vt n, Fr h₀ L h' m → News h₀ L h' tl → (q, tupO [.str ⟨t.txt.toArray⟩ t1, vt] n) ∈ tl → TreeIn tl vt t → t.Good → t.leaves = 5 → Q (.ref q) { s with heap := h', toks := k }),
    wpAny (model PySem.Challenge.rw_xn0010_01.row.prog w) (ktrTop dp un gd cn cs L a ccd cl outer) (call (.ref 171) [.ref l]) Q E s := by
  w_on
  k_fill
  intro dp un gd cn cs a ccd cl outer A₀ base h₀ L m s Q E l vs ns B F X N T hk hd1 hu hl hi hn h
  have hil := hi.length
  refine wpAny_call ?_
  k_dflt ktr_enter
  refine wp_never ?_
  rename Fr h₀ L _ m => FG
  have hlg := hl.at (fun o e => FG.keep l o e)
  k_with "subscriptTail Name Slice ref ref" => (k_dflt (first | refine sl_to (s := ⟨_, _, _, _, _⟩) (by k_asm) (by k_asm) (hlg.at fun o e => Fr.keep (by k_asm) _ o e) (by decide) (by omega) ?_ | refine sl_toN (s := ⟨_, _, _, _, _⟩) (by k_asm) (by k_asm) (by k_mem) (by first | decide | omega) (by omega) ?_ | refine sl_fromN (s := ⟨_, _, _, _, _⟩) (by k_asm) (by k_asm) (by k_mem) (by first | decide | omega) (by omega) ?_); intro D6 h6 F6 N6 l6)
  k_with "call type:enumerate" => (
    k_dflt (refine numbers_loop (nl := _) rfl (ints_take hi 15) (by rw [List.length_take]; omega) (by k_asm) N6 (Nat.ne_of_lt (l6 _ (.head _))) (.cons _ _ (.cons _ _ (.cons _ _ (.cons _ _ (.cons _ _ .nil))))) ⟨rfl, by decide⟩ (by exact rfl) (fun i a t u us ks n m₁ h5 tk5 own hi15 hik hfk hown F5 N5 => ?_) (fun h5 tk5 m₁ us ks n hik hfk F5 N5 => ?_)))
  have AC := ap_ct w mean mg mb
  have q6 : dp + 1 + 1 < recursionLimit := by omega
  have q7 : un + 3 + 8 * 1 < cLine := by omega
  k_with "getItem ref int" => (k_dflt (refine ksa_get (by k_asm) (by k_mem) hik (fmod_lo _ (by decide)) (by have := fmod_hi (i : Int) (n := 5) (by decide); have := (five_len hfk); omega) (by have := fmod_hi (i : Int) (n := 5) (by decide); omega) ?_); intro t7)
  k_with "setItem ref int int" => (k_dflt (refine ksa_set (by k_asm) (by k_asm) (by k_upd) hik (fmod_lo _ (by decide)) (by have := fmod_hi (i : Int) (n := 5) (by decide); have := (five_len hfk); omega) (by have := fmod_hi (i : Int) (n := 5) (by decide); omega) ?_); intro h7 F7 N7 hi7 hl7 hs7)
  k_with "exec Assign cons ListComp" => (k_dflt (refine LCg.Assign_ListComp_U (F₀ := by k_asm) (by rfl) (by with_unfolding_all rfl) (by with_unfolding_all rfl) (by decide) (by rfl) (by decide) (by rfl) (by rfl) (by rfl) ?_))
  k_with "CompSrc" => (
    have hul := hik.length
    k_dflt (refine LCg.CompSrc.ledger (by rfl) (by k_asm) (by k_asm) (by k_mem) (by rw [List.size_toArray, hul, (five_len hfk)]; decide) ?_)
    intro g7
    k_dflt (refine restU_ind (LeafJ ks _) us.toArray.size ?_ ?_ _ 0 _ _ (by omega) ⟨[], rfl, (fun _ h => nomatch h), .nil⟩)
    rotate_left
    (rintro ys8 nw8 ⟨own8, rfl, hc8, ha8⟩)
    rw [List.size_toArray, hul, List.take_length] at ha8
    have hu5 : us.length = 5 := (by rw [hul]; exact (five_len hfk))
    rotate_right
    (rintro i7 ys7 nw7 hlt7 ⟨own7, rfl, hc7, ha7⟩ v7 I7 oI7 C7 oC7 D7 m7 h7 tk7 E7 hv7 hC7 hx7 F7 N7 off7 ne7)
    have hl7 : i7 < ks.length := (by rw [List.size_toArray] at hlt7; omega)
    obtain ⟨t7, ht7⟩ := hik.get i7 ks[i7] (List.getElem?_eq_getElem hl7)
    have hv8 : v7 = .int ks[i7] t7 := (by have h9 : us[i7]? = some v7 := (by simpa using hv7); rw [ht7] at h9; exact (Option.some.inj h9).symm)
    subst hv8
    have hk7 : ks[i7]? = some ks[i7] := List.getElem?_eq_getElem hl7
    have hp7 := (five_bd hfk) ks[i7] (List.getElem_mem _)
    generalize ks[i7] = k7 at hk7 hp7 hx7 ht7 hv7
    have hb7 : (1 + k7.fmod 15).natAbs < 16 ^ 6 := (by have h8 := fmod_lo k7 (n := 15) (by decide); have h9 := fmod_hi k7 (n := 15) (by decide); omega))
  k_with "call ref" => ((with_reducible show wpAny _ _ (call (Value.ref 166) _) _ _ _); k_dflt (refine tellsN_use (c := apT) (by k_asm) (by k_asm) (by k_asm) (by k_asm) (by k_asm) (by first | exact rfl | assumption) (by first | (exact .mk) | fail "rel") (AC _) (by first | (exact hb7) | fail "ok") (by exact q6) (by exact q7) ?_); intro r9 tl9 h9 tk9 F9 N9 hl9 ht9 ho9; (try dsimp only); obtain ⟨t9', e9'⟩ := ho9; subst e9'; subst ht9; (try simp only [List.append_nil] at N9))
  k_with "call builtin:bytes.decode" => (k_dflt (refine decode2 (l := apL (Int.natAbs _)) (fun c hc => Nat.lt_of_le_of_lt (apL_codes 6 _ hb7 c hc).2 (by decide)) (Nat.le_trans (apL_len 6 _ hb7) (by decide)) ?_; intro t8 k8))
  k_with "CompEnd" => (k_dflt (refine leaf_end (by k_asm) (by k_asm) off7 (ktn_ltOf (by assumption)) (.head _) hc7 ha7 hk7 ?_ ?_))
  k_with "pyIter ref" => (k_dflt (
    (with_reducible show wpAny _ _ (pyIter (Value.ref _)) (fun _ _ => LoopAtV _ _ _ _ _ _ _ _ _ _ _) _ _)
    (have hi4 := ints_take hik 4)
    (k_dflt (refine iter_any (DrawJ D6 (us.take (4 : Int).toNat) 0) rfl (.head _) (by k_asm) N6 ?_ (fun i m nx hJ => ?_) ?_ ?_))
    (exact draw_start hc8 ha8 (five_len hfk) (if_pos rfl))
    (obtain ⟨tl, tls, ts, n9, h1, h2, h3, -⟩ := hJ)
    (exact ⟨h2, fun p hp => .inr (by rcases h3 p hp with e | e <;> rw [e] <;> decide)⟩)
    (rintro i v m₁ nx h8 tk8 own hv hcls hsep ⟨tl, tls, ts, n9, htl, hls, hcl, hall, hgood, hsum, hlen, hm1⟩ F1 N1 P9 hP9)
    (rw [kst_is' (one_in hm1)] at F1)
    (have hi8 : i < (ks.take 4).length := (by rw [← hi4.length]; exact (List.getElem?_eq_some_iff.mp hv).1))
    (obtain ⟨tv, htv⟩ := hi4.get i (ks.take 4)[i] (List.getElem?_eq_getElem hi8))
    (have hv8 : v = .int (ks.take 4)[i] tv := (by have h9 : (us.take 4)[i]? = some v := hv; rw [htv] at h9; exact (Option.some.inj h9).symm))
    (subst hv8)
    (have hp8 := (five_bd hfk) (ks.take 4)[i] (List.mem_of_mem_take (List.getElem_mem _)))
    (generalize (ks.take 4)[i] = k8 at hp8 F1 hv htv)
    (have htl5 := hall.length)
    (have hl5 : tls.length ≤ 5 := (by rw [htl5, ← hlen]; exact Nat.le_add_right _ _))
    (rw [List.length_take] at hi8)
    (rotate_left)
    (rintro m₁ nx h8 tk8 ⟨tl, tls, ts, n9, htl, hls, hcl, hall, hgood, hsum, hlen, hm1⟩ F1 N1)
    (rw [kst_is' (one_in hm1)] at F1)
    (rw [List.length_take, hu5] at hlen)
    (obtain ⟨q0, t0, vt0, n0, T0, rfl, x1, x2, x3, x4⟩ := one_tree hall (Nat.add_right_cancel (show ts.length + 4 = 1 + 4 from hlen)) hsum hgood)
    rotate_right))
  k_with "binaryOp Mod int int" => (k_dflt (first
    | ((with_reducible show wpAny _ _ (binaryOp _ _ (Value.int (_ - _) _)) _ _ _); refine mod_abs (b := (tls.length : Int) - 1) (by omega) ?_; intro p6 t6 k6 hp0 hp1; obtain ⟨q1, a1, v1, m1, T1, q2, a2, v2, m2, T2, x1, x2, x3, x4, x5, x6, x7⟩ := two_trees hall hp0 hp1; obtain ⟨y1, y2⟩ := leaves_le x7 hsum; have z1 := txt_small y1; have z2 := txt_small y2)
    | ((with_reducible show wpAny _ _ (binaryOp _ _ (Value.int 3 _)) _ _ _); have htl5' := htl5; refine mod_abs (b := 3) (by decide) ?_; intro w6 t6 k6 hw0 hw1)))
  k_with "call builtin:len" => (k_dflt (refine len_v (by k_asm) (by k_mem) (by omega) ?_; intro t6 k6))
  k_with "subscriptTail Name Constant ref int" => (k_dflt (refine item_v (by k_asm) (by k_mem) (by decide) (by decide) rfl ?_))
  k_with "subscriptTail Name Name ref int" => (k_dflt (refine item_v (by k_asm) (by k_mem) hp0 (by omega) x1 ?_))
  k_with "subscriptTail Name BinOp ref int" => (k_dflt (refine item_v (by k_asm) (by k_mem) (by omega) (by omega) x4 ?_))
  k_with "subscriptTail Constant Name str int" => (k_dflt (refine sign_at hw0 hw1 ?_; intro t6 k6))
  k_with "binaryOp Add ref ref" => (k_dflt (refine add2 (by k_asm) (by k_asm) (by k_mem) (by k_mem) (by first | exact add_sm1 hl5 | exact add_sm2 hl5) ?_; intro h6 F6 N6 l6))
  k_steps
  · refine NumPost.next (by k_asm) (by k_asm) (fun p hp => hp) hi7 (num_bound hfk (by have := fmod_hi (i : Int) (n := 5) (by decide); have := fmod_lo (i : Int) (n := 5) (by decide); omega) rfl) (by exact rfl)
  · exact leaf_str
  · have h8 := fmod_lo k7 (n := 15) (by decide)
    omega
  · exact hP9 _ _ (draw_turn2 (by k_asm) (by k_asm) rfl x3 x6 hls hcl hall hgood hsum hlen x7 hw0 hw1 (by exact rfl))
  · exact h _ _ nx q0 T0 t0 vt0 n0 (by k_asm) (by k_asm) x1 x2 x3 x4
end

section
open PySem PySem.W PyProof.Rows PySem.Spec PySem.Calls
set_option Elab.async false
set_option linter.all false
noncomputable def Tr.dep : Tr → Int
  | .leaf _ => 0
  | .node _ l r => 1 + max l.dep r.dep
noncomputable def Tr.hts : Tr → List Int
  | .leaf _ => [1]
  | .node _ l r =>
    let ps := l.hts.flatMap fun a => r.hts.map fun b => (a, b)
    (ps.map fun p => max p.1 (1 + p.2)) ++ (ps.map fun p => max p.2 (1 + p.1))
theorem foldl_snoc (p : List Int) (s : Int) (σ : List Int × Int) : (p ++ [s]).foldl mStep σ = mStep (p.foldl mStep σ) s := by rw [List.foldl_append]; rfl
theorem mStep_two {σ : List Int} {a b m sym : Int} (h : sym < 256) : mStep (σ ++ [a] ++ [b], m) sym = (σ ++ [mVal sym a b], m) := by
  unfold mStep
  rw [if_neg (by omega)]
  have e : (σ ++ [a] ++ [b]).length = σ.length + 2 := by simp
  have t : (σ ++ [a] ++ [b]).take (σ.length + 2 - 2) = σ := by simp
  dsimp only
  rw [e, t]
  have g1 : (σ ++ [a] ++ [b]).getD (σ.length + 2 - 2) 0 = a := by simp [List.getD_eq_getElem?_getD, List.getElem?_append]
  have g2 : (σ ++ [a] ++ [b]).getD (σ.length + 2 - 1) 0 = b := by simp [List.getD_eq_getElem?_getD, List.getElem?_append]
  rw [g1, g2]
theorem max_in (m s x y : Int) : max (max m (s + x)) (s + 1 + y) = max m (s + max x (1 + y)) := by rw [Int.max_assoc, Int.add_assoc s 1 y, Int.max_add_left]
theorem run_all : ∀ (t : Tr) (_ : t.Good), All2 (fun (p : List Int) (h : Int) => ∀ (σ : List Int) (m : Int), p.foldl mStep (σ, m) = (σ ++ [t.val], max m ((σ.length : Int) + h))) t.progs t.hts
  | .leaf k, hg => .cons (fun σ m => by
      show mStep (σ, m) (256 + (k : Int)) = _
      unfold mStep
      rw [if_pos (by omega)]
      show (σ ++ [256 + (k : Int) - 255], max m ((σ.length : Int) + 1)) = (σ ++ [(k : Int) + 1], _)
      rw [show 256 + (k : Int) - 255 = (k : Int) + 1 by omega]) .nil
  | .node w l r, hg => by
    have hl := run_all l hg.2.1
    have hr := run_all r hg.2.2
    have hw : w < 3 := hg.1
    have pr : All2 (fun (p : List Int × List Int) (h : Int × Int) => (∀ (σ : List Int) (m : Int), p.1.foldl mStep (σ, m) = (σ ++ [l.val], max m ((σ.length : Int) + h.1))) ∧ (∀ (σ : List Int) (m : Int), p.2.foldl mStep (σ, m) = (σ ++ [r.val], max m ((σ.length : Int) + h.2))))
        (l.progs.flatMap fun a => r.progs.map fun b => (a, b)) (l.hts.flatMap fun a => r.hts.map fun b => (a, b)) :=
      hl.flatMap fun x y hxy => hr.map fun u v huv => ⟨hxy, huv⟩
    refine (pr.map ?_).append (pr.map ?_)
    · rintro ⟨a, b⟩ ⟨x, y⟩ ⟨h1, h2⟩ σ m
      dsimp only at h1 h2 ⊢
      rw [foldl_snoc, List.foldl_append, h1, h2, mStep_two (by omega)]
      have e : mVal (14 + (w : Int)) l.val r.val = (Tr.node w l r).val := by unfold mVal; rw [if_neg (by omega)]; rfl
      rw [e]
      rw [List.length_append]
      exact congrArg (Prod.mk _) (max_in _ _ _ _)
    · rintro ⟨a, b⟩ ⟨x, y⟩ ⟨h1, h2⟩ σ m
      dsimp only at h1 h2 ⊢
      rw [foldl_snoc, List.foldl_append, h2, h1, mStep_two (by omega)]
      have e : mVal (253 + (w : Int)) r.val l.val = (Tr.node w l r).val := by
        unfold mVal
        rw [if_pos (by omega), show 253 + (w : Int) - 239 = 14 + (w : Int) by omega]; rfl
      rw [e]
      rw [List.length_append]
      exact congrArg (Prod.mk _) (max_in _ _ _ _)
/-- a program runs well from a pile -/
noncomputable def okRun (D : List (PyData × PyData)) : List Int × Int → List Int → Prop
  | _, [] => True
  | σ, s :: r => mOk D σ s ∧ okRun D (mStep σ s) r
theorem okRun_append (D : List (PyData × PyData)) : ∀ (a b : List Int) (σ : List Int × Int), okRun D σ a → okRun D (a.foldl mStep σ) b → okRun D σ (a ++ b)
  | [], _, _, _, h => h
  | s :: r, b, σ, h, h' => ⟨h.1, okRun_append D r b _ h.2 h'⟩
theorem okRun_at (D : List (PyData × PyData)) : ∀ (pre : List Int) (s : Int) (post : List Int) (σ : List Int × Int), okRun D σ (pre ++ s :: post) → mOk D (pre.foldl mStep σ) s
  | [], _, _, _, h => h.1
  | x :: r, s, post, σ, h => okRun_at D r s post _ h.2
theorem run_ok (D : List (PyData × PyData)) : ∀ (t : Tr) (_ : t.Good) (_ : t.leaves ≤ 5) (_ : ∀ k, t.Has k → PySem.Spec.lookup (PyData.int (256 + (k : Int))) D = some (PyData.str ⟨#[66 + k]⟩)), ∀ p ∈ t.progs, ∀ (σ : List Int) (m : Int), σ.length + t.leaves ≤ 50 → okRun D (σ, m) p
  | .leaf k, hg, hlv, hD, p, hp, σ, m, hs => by
    rw [List.mem_singleton.mp hp]
    have hk : k < 15 := hg
    have hs' : σ.length + 1 ≤ 50 := hs
    refine ⟨⟨by show σ.length ≤ 100; omega, .inl ⟨by omega, ⟨#[66 + k]⟩, hD k .leaf, ?_⟩⟩, trivial⟩
    refine ⟨show (1 : Nat) ≤ 8 by decide, fun c hc => ?_, ?_⟩
    · have : c = 66 + k := by simpa using hc
      subst this; omega
    · show (16 * 0 + ((66 + k : Nat) : Int) - 65) = 256 + (k : Int) - 255
      omega
  | .node w l r, hg, hlv, hD, p, hp, σ, m, hs => by
    have hw : w < 3 := hg.1
    have hlv' : l.leaves + r.leaves ≤ 5 := hlv
    have lp1 := leaves_pos l
    have lp2 := leaves_pos r
    have hs' : σ.length + (l.leaves + r.leaves) ≤ 50 := hs
    have hl := run_ok D l hg.2.1 (by omega) (fun k hk => hD k (.l hk))
    have hr := run_ok D r hg.2.2 (by omega) (fun k hk => hD k (.r hk))
    have al := run_all l hg.2.1
    have ar := run_all r hg.2.2
    have vs := val_small (t := .node w l r) hg hlv
    have v1 := val_small hg.2.1 (by omega : l.leaves ≤ 5)
    have v2 := val_small hg.2.2 (by omega : r.leaves ≤ 5)
    have ex : ∀ (t : Tr) (at' : All2 (fun (p : List Int) (h : Int) => ∀ (σ : List Int) (m : Int), p.foldl mStep (σ, m) = (σ ++ [t.val], max m ((σ.length : Int) + h))) t.progs t.hts), ∀ a ∈ t.progs, ∀ (σ : List Int) (m : Int), ∃ m', a.foldl mStep (σ, m) = (σ ++ [t.val], m') := by
      intro t at' a ha σ m
      obtain ⟨i, hi⟩ := List.mem_iff_getElem?.mp ha
      obtain ⟨y, _, hy⟩ := at'.get hi
      exact ⟨_, hy σ m⟩
    simp only [Tr.progs, List.mem_append, List.mem_map, List.mem_flatMap] at hp
    have op : ∀ (sym : Int) (x y : Int) (m : Int), 0 < sym → sym < 256 → small x → small y → (mVal sym x y).natAbs < 16 ^ 6 → okRun D (σ ++ [x] ++ [y], m) [sym] := by
      intro sym x y m h0 h1 sx sy hb
      refine ⟨⟨by simp only [List.length_append, List.length_singleton]; omega, .inr ⟨h0, h1, σ, x, y, by simp, sx, sy, hb⟩⟩, trivial⟩
    rcases hp with ⟨q, ⟨a, ha, b, hb, rfl⟩, rfl⟩ | ⟨q, ⟨a, ha, b, hb, rfl⟩, rfl⟩
    · obtain ⟨m1, e1⟩ := ex l al a ha σ m
      obtain ⟨m2, e2⟩ := ex r ar b hb (σ ++ [l.val]) m1
      refine okRun_append D _ _ _ (okRun_append D _ _ _ (hl a ha σ m (by omega)) ?_) ?_
      · dsimp only; rw [e1]; exact hr b hb _ _ (by rw [List.length_append, List.length_singleton]; omega)
      · dsimp only; rw [List.foldl_append, e1, e2]
        refine op _ _ _ _ (by omega) (by omega) ⟨v1.1, v1.2.1⟩ ⟨v2.1, v2.2.1⟩ ?_
        have e : mVal (14 + (w : Int)) l.val r.val = (Tr.node w l r).val := by unfold mVal; rw [if_neg (by omega)]; rfl
        rw [e]; exact vs.2.2
    · obtain ⟨m1, e1⟩ := ex r ar b hb σ m
      obtain ⟨m2, e2⟩ := ex l al a ha (σ ++ [r.val]) m1
      refine okRun_append D _ _ _ (okRun_append D _ _ _ (hr b hb σ m (by omega)) ?_) ?_
      · dsimp only; rw [e1]; exact hl a ha _ _ (by rw [List.length_append, List.length_singleton]; omega)
      · dsimp only; rw [List.foldl_append, e1, e2]
        refine op _ _ _ _ (by omega) (by omega) ⟨v2.1, v2.2.1⟩ ⟨v1.1, v1.2.1⟩ ?_
        have e : mVal (253 + (w : Int)) r.val l.val = (Tr.node w l r).val := by
          unfold mVal
          rw [if_pos (by omega), show 253 + (w : Int) - 239 = 14 + (w : Int) by omega]; rfl
        rw [e]; exact vs.2.2
theorem need_le : ∀ t : Tr, 1 ≤ t.need ∧ t.need ≤ t.dep + 1 ∧ 0 ≤ t.dep
  | .leaf _ => by simp [Tr.need, Tr.dep]
  | .node _ l r => by
    have h1 := need_le l
    have h2 := need_le r
    simp only [Tr.need, Tr.dep]
    split <;> omega
theorem le_max3 {x c d : Int} : x ≤ max c d ↔ x ≤ c ∨ x ≤ d := by
  rcases Int.le_total c d with h | h
  · rw [Int.max_eq_right h]; exact ⟨.inr, fun q => q.elim (fun q => Int.le_trans q h) id⟩
  · rw [Int.max_eq_left h]; exact ⟨.inl, fun q => q.elim id (fun q => Int.le_trans q h)⟩
theorem need_iff {a b x : Int} : max a b + (if a = b then 1 else 0) ≤ x ↔ a ≤ x ∧ b ≤ x ∧ (a = b → a + 1 ≤ x) := by
  by_cases e : a = b
  · subst e
    rw [if_pos rfl, Int.max_self]
    exact ⟨fun h => ⟨Int.le_of_lt h, Int.le_of_lt h, fun _ => h⟩, fun h => h.2.2 rfl⟩
  · rw [if_neg e, Int.add_zero, Int.max_le]
    exact ⟨fun h => ⟨h.1, h.2, fun q => absurd q e⟩, fun h => ⟨h.1, h.2.1⟩⟩
theorem dep_iff {c d x : Int} : x ≤ 1 + max c d + 1 ↔ x ≤ c + 1 + 1 ∨ x ≤ d + 1 + 1 := by
  rw [Int.add_comm 1, ← Int.max_add_right, ← Int.max_add_right]
  exact le_max3
theorem cov {a b c d x : Int} (ha : a ≤ c) (hb : b ≤ d) (h1 : a ≤ x) (h2 : b ≤ x) (h4 : a = b → a + 1 ≤ x) (h3 : x ≤ c + 1 ∨ x ≤ d + 1) :
    ∃ p q, (a ≤ p ∧ p ≤ c) ∧ (b ≤ q ∧ q ≤ d) ∧ (max p (1 + q) = x ∨ max q (1 + p) = x) := by
  have e : 1 + (x - 1) = x := by rw [Int.add_comm, Int.sub_add_cancel]
  rcases h3 with h3 | h3
  · rcases Int.lt_or_eq_of_le h1 with g | g
    · exact ⟨x - 1, b, ⟨Int.le_sub_one_of_lt g, Int.sub_right_le_of_le_add h3⟩, ⟨Int.le_refl _, hb⟩, .inr (by rw [e, Int.max_eq_right h2])⟩
    · subst g
      have hn : ¬ a = b := fun q => Int.lt_irrefl a (h4 q)
      exact ⟨a, b, ⟨h1, ha⟩, ⟨Int.le_refl _, hb⟩, .inl (Int.max_eq_left (by rw [Int.add_comm]; exact Int.lt_iff_le_and_ne.mpr ⟨h2, Ne.symm hn⟩))⟩
  · rcases Int.lt_or_eq_of_le h2 with g | g
    · exact ⟨a, x - 1, ⟨Int.le_refl _, ha⟩, ⟨Int.le_sub_one_of_lt g, Int.sub_right_le_of_le_add h3⟩, .inl (by rw [e, Int.max_eq_right h1])⟩
    · subst g
      have hn : ¬ a = b := fun q => Int.lt_irrefl a (by rw [← q] at h4; exact h4 rfl)
      exact ⟨a, b, ⟨Int.le_refl _, ha⟩, ⟨h2, hb⟩, .inr (Int.max_eq_left (by rw [Int.add_comm]; exact Int.lt_iff_le_and_ne.mpr ⟨h1, hn⟩))⟩
theorem uncov {a b c d p q : Int} (ha : a ≤ p) (hc : p ≤ c) (hb : b ≤ q) (hd : q ≤ d) : (a ≤ max p (1 + q) ∧ b ≤ max p (1 + q) ∧ (a = b → a + 1 ≤ max p (1 + q))) ∧ (max p (1 + q) ≤ c + 1 ∨ max p (1 + q) ≤ d + 1) := by
  have l1 := Int.le_max_left p (1 + q)
  have l2 := Int.le_max_right p (1 + q)
  rw [Int.add_comm 1 q] at l1 l2 ⊢
  refine ⟨⟨Int.le_trans ha l1, Int.le_trans (Int.le_of_lt (Int.lt_add_one_of_le hb)) l2, fun e => Int.le_trans (Int.add_le_add_right (e ▸ hb) 1) l2⟩, ?_⟩
  rcases Int.le_total p (q + 1) with h | h
  · rw [Int.max_eq_right h]; exact .inr (Int.add_le_add_right hd 1)
  · rw [Int.max_eq_left h]; exact .inl (Int.le_trans hc (Int.le_of_lt (Int.lt_add_one_of_le (Int.le_refl c))))
theorem hts_mem : ∀ (t : Tr) (x : Int), x ∈ t.hts ↔ t.need ≤ x ∧ x ≤ t.dep + 1
  | .leaf _, x => by
    show x ∈ [1] ↔ 1 ≤ x ∧ x ≤ 0 + 1
    rw [List.mem_singleton, Int.zero_add]
    exact ⟨fun h => ⟨Int.le_of_eq h.symm, Int.le_of_eq h⟩, fun h => Int.le_antisymm h.2 h.1⟩
  | .node w l r, x => by
    have hl := hts_mem l
    have hr := hts_mem r
    show x ∈ _ ↔ max l.need r.need + (if l.need = r.need then 1 else 0) ≤ x ∧ x ≤ 1 + max l.dep r.dep + 1
    rw [need_iff, dep_iff]
    simp only [Tr.hts, List.mem_append, List.mem_map, List.mem_flatMap]
    constructor
    · rintro (⟨q, ⟨a, ha, b, hb, rfl⟩, rfl⟩ | ⟨q, ⟨a, ha, b, hb, rfl⟩, rfl⟩)
      · have h1 := (hl a).mp ha
        have h2 := (hr b).mp hb
        exact uncov h1.1 h1.2 h2.1 h2.2
      · have h1 := (hl a).mp ha
        have h2 := (hr b).mp hb
        have h := uncov h2.1 h2.2 h1.1 h1.2
        exact ⟨⟨h.1.2.1, h.1.1, fun e => e ▸ h.1.2.2 e.symm⟩, h.2.symm⟩
    · rintro ⟨⟨h1, h2, h4⟩, h3⟩
      obtain ⟨p, q, hp, hq, h | h⟩ := cov (need_le l).2.1 (need_le r).2.1 h1 h2 h4 h3
      · exact .inl ⟨(p, q), ⟨p, (hl p).mpr hp, q, (hr q).mpr hq, rfl⟩, h⟩
      · exact .inr ⟨(p, q), ⟨p, (hl p).mpr hp, q, (hr q).mpr hq, rfl⟩, h⟩
/-- the greatest depth that is told -/
theorem toks_dep : ∀ (t : Tr) (d : Int), (∀ p ∈ t.toks d, p.2 ≤ d + t.dep) ∧ ∃ p ∈ t.toks d, p.2 = d + t.dep
  | .leaf k, d => ⟨fun p hp => by rw [List.mem_singleton.mp hp]; simp [Tr.dep], ⟨_, .head _, by simp [Tr.dep]⟩⟩
  | .node w l r, d => by
    obtain ⟨l1, pl, l2, l3⟩ := toks_dep l (d + 1)
    obtain ⟨r1, pr, r2, r3⟩ := toks_dep r (d + 1)
    have n1 := need_le l
    have n2 := need_le r
    constructor
    · intro p hp
      simp only [Tr.toks, List.mem_cons, List.mem_append, List.not_mem_nil, or_false] at hp
      simp only [Tr.dep]
      rcases hp with rfl | hp | rfl | hp | rfl
      · dsimp only; omega
      · have := l1 p hp; omega
      · dsimp only; omega
      · have := r1 p hp; omega
      · dsimp only; omega
    · by_cases h : l.dep ≤ r.dep
      · refine ⟨pr, ?_, by rw [r3]; simp only [Tr.dep]; omega⟩
        simp only [Tr.toks, List.mem_cons, List.mem_append]
        exact .inr (.inr (.inr (.inl r2)))
      · refine ⟨pl, ?_, by rw [l3]; simp only [Tr.dep]; omega⟩
        simp only [Tr.toks, List.mem_cons, List.mem_append]
        exact .inr (.inl l2)
theorem toks_last : ∀ (t : Tr) (d : Int), ∃ r s, t.toks d = r ++ [(s, d)]
  | .leaf k, d => ⟨[], _, rfl⟩
  | .node w l r, d => ⟨(7, d + 1) :: (l.toks (d + 1) ++ (14 + (w : Int), d + 1) :: r.toks (d + 1)), 8, by simp [Tr.toks]⟩
end

section
open PySem PySem.W PyProof.Rows PySem.Spec PySem.Calls
set_option Elab.async false
set_option linter.all false
theorem size_leaves : ∀ t : Tr, t.size + 1 = 2 * t.leaves
  | .leaf _ => rfl
  | .node _ l r => by
    have h1 := size_leaves l
    have h2 := size_leaves r
    simp only [Tr.size, Tr.leaves]; omega
theorem scan_toks {t : Tr} (h : t.Good) : scan t.txt 0 = t.toks 0 := by
  have := scan_txt t h 0 []
  simpa [scan] using this
theorem ints_head {vs : List Value} {n : Int} {ns : List Int} (h : IntsAre vs (n :: ns)) : ∃ t r, vs = .int n t :: r ∧ IntsAre r ns := by
  cases h with
  | cons _ t h => exact ⟨t, _, rfl, h⟩
theorem ints_none {vs : List Value} (h : IntsAre vs []) : vs = [] := by
  cases h; rfl
theorem ints_snoc {ns : List Int} {x : Int} : ∀ {vs : List Value}, IntsAre vs (ns ++ [x]) → ∃ vi t, vs = vi ++ [.int x t] ∧ IntsAre vi ns := by
  induction ns with
  | nil =>
    intro vs h
    obtain ⟨t, r, rfl, h2⟩ := ints_head h
    rw [ints_none h2]
    exact ⟨[], t, rfl, .nil⟩
  | cons n ns ih =>
    intro vs h
    obtain ⟨t, r, rfl, h2⟩ := ints_head h
    obtain ⟨vi, u, rfl, hi⟩ := ih h2
    exact ⟨.int n t :: vi, u, rfl, .cons _ _ hi⟩
theorem all2_last {α β : Type} {R : α → β → Prop} {xs : List α} {ys : List β} (h : All2 R xs ys) (hn : ys ≠ []) : ∃ (xi : List α) (x : α) (yi : List β) (y : β), xs = xi ++ [x] ∧ ys = yi ++ [y] ∧ R x y := by
  induction h with
  | nil => exact absurd rfl hn
  | @cons x y xs ys hr h ih =>
    by_cases e : ys = []
    · subst e
      have : xs = [] := List.eq_nil_of_length_eq_zero h.length
      subst this
      exact ⟨[], x, [], y, rfl, rfl, hr⟩
    · obtain ⟨xi, a, yi, b, rfl, rfl, hab⟩ := ih e
      exact ⟨x :: xi, a, y :: yi, b, rfl, rfl, hab⟩
theorem seg_all (t : Tr) : Seg.all ⟨t, 0, [], []⟩ = t.toks 0 := by simp [Seg.all]
theorem toks_len : ∀ (t : Tr) (d : Int), (t.toks d).length + 3 = 4 * t.leaves
  | .leaf _, _ => rfl
  | .node _ l r, d => by
    have h1 := toks_len l (d + 1)
    have h2 := toks_len r (d + 1)
    simp only [Tr.toks, Tr.leaves, List.length_cons, List.length_append, List.length_nil]; omega
theorem progs_ne (t : Tr) : t.progs ≠ [] := by
  intro h
  have h1 := progs_len t
  rw [h] at h1
  have : 0 < 2 ^ t.leaves := Nat.pow_pos (by decide)
  simp at h1
  omega
/-- what the reading of a tree's text yields -/
theorem read_facts {t : Tr} (hg : t.Good) (hl : t.leaves = 5) {vs ws : List Value} (hv : IntsAre vs ((scan t.txt 0).map (·.1))) (hw : IntsAre ws ((scan t.txt 0).map (·.2))) :
    IntsAre vs ((Seg.all ⟨t, 0, [], []⟩).map (·.1)) ∧ IntsAre ws ((Seg.all ⟨t, 0, [], []⟩).map (·.2)) ∧ vs.length = (Seg.len ⟨t, 0, [], []⟩) ∧ vs.length = 17 ∧ ws.length = 17 ∧ (∃ wi tw, ws = wi ++ [.int 0 tw] ∧ wi.length = 16) := by
  rw [scan_toks hg] at hv hw
  rw [seg_all]
  have h1 := hv.length
  have h2 := hw.length
  have h3 := toks_len t 0
  rw [List.length_map] at h1 h2
  refine ⟨hv, hw, h1, by omega, by omega, ?_⟩
  obtain ⟨r, s, e⟩ := toks_last t 0
  rw [e, List.map_append] at hw
  obtain ⟨wi, tw, rfl, _⟩ := ints_snoc hw
  refine ⟨wi, tw, rfl, ?_⟩
  rw [List.length_append, List.length_singleton] at h2
  omega
section
open LCg LCt
variable {prog : Program} {w : World} {A : Around} {E : Value → Shared → Prop} {s : Shared} {h₀ : Heap} {L : Addr} {m : Str → Option Value} {env : Env}
/-- a filtering comprehension of which no item passes -/
theorem restT_none {ct elt : PySem.Expr} {x : Str} {scope : Scope} {cl : List (Str × Addr)} {S : List (Addr × Obj) → Prop} {P : Nat → Value → Prop} {Fin : List Value → List (Addr × Obj) → Prop} (news : List (Addr × Obj)) (hS : S news)
    (step : ∀ i v I oI C oC D m₂ h tk (E' : Value → Shared → Prop), P i v → NsObj oC m₂ → m₂ x = some v → Fr h₀ L h m → News h₀ L h ((I, oI) :: (C, oC) :: (D, lst []) :: news) →
      wpAny (model prog w) A (isTrue ct (compEnvC scope cl C env) (eval ct (compEnvC scope cl C env))) (fun ok s' => ok = false ∧ ∃ h' tk', s' = { s with heap := h', toks := tk' } ∧ Fr h₀ L h' m ∧ News h₀ L h' ((I, oI) :: (C, oC) :: (D, lst []) :: news)) E' { s with heap := h, toks := tk })
    (fin : Fin [] news) : ∀ k i, CompRestT prog w A h₀ L m env ct elt x scope cl s S P Fin k i [] news
  | 0, _ => CompRestT.zero fin
  | k + 1, i => CompRestT.succ fun v I oI C oC D m₂ h tk E' a0 a1 a2 a3 a4 a5 _ => by
    refine wpAny_mono (step i v I oI C oC D m₂ h tk E' a0 a1 a2 a3 a4) (fun ok s₂ hc => ?_) fun _ _ e => e
    obtain ⟨rfl, h', tk', rfl, F', N'⟩ := hc
    rw [if_neg (by decide)]
    exact CompEnd.intro F' N' news (fun p hp => hp) a5 hS (restT_none news hS step fin k (i + 1))
end
theorem int_of_at {lvs : List Value} {lp : List Int} {i : Nat} {t0 : Tok} {v : Value} (h : IntsAre lvs lp) (hv : (List.toArray (lvs ++ [Value.int 0 t0]))[i]? = some v) : ∃ x t, v = .int x t := by
  have hi : IntsAre (lvs ++ [.int 0 t0]) (lp ++ [0]) := h.append (.cons _ _ .nil)
  have hv' : (lvs ++ [Value.int 0 t0])[i]? = some v := by simpa using hv
  have hl : i < (lp ++ [0]).length := by rw [← hi.length]; exact (List.getElem?_eq_some_iff.mp hv').1
  obtain ⟨t, ht⟩ := hi.get i (lp ++ [0])[i] (List.getElem?_eq_getElem hl)
  rw [ht] at hv'
  exact ⟨_, t, (Option.some.inj hv').symm⟩
theorem has_good {t : Tr} {k : Nat} (h : t.Has k) : t.Good → k < 15 := by
  induction h with
  | leaf => exact fun h => h
  | l _ ih => exact fun h => ih h.2.1
  | r _ ih => exact fun h => ih h.2.2
theorem run_good {t : Tr} {D : List (PyData × PyData)} {p : List Int} (hg : t.Good) (hl : t.leaves = 5) (hk : ∀ c ∈ t.txt, isLet c = true → PySem.Spec.lookup (PyData.int (symOf c)) D = some (PyData.str ⟨#[c]⟩)) (hp : p ∈ t.progs) : RunD.Ok ⟨p, D⟩ := by
  have hD : ∀ k, t.Has k → PySem.Spec.lookup (PyData.int (256 + (k : Int))) D = some (PyData.str ⟨#[66 + k]⟩) := by
    intro k h
    have h15 := has_good h hg
    have := hk (66 + k) (has_txt h) (decide_eq_true ⟨by omega, by omega⟩)
    have e : symOf (66 + k) = 256 + (k : Int) := by unfold symOf; rw [if_pos (by omega)]; omega
    rwa [e] at this
  have ok := run_ok D t hg (by omega) hD p hp [] 0 (by show 0 + t.leaves ≤ 50; omega)
  have hlen := progs_each t p hp
  refine ⟨by show p.length ≤ 100; omega, fun pre sym post e => ?_, ?_⟩
  · have e' : p = pre ++ sym :: post := e
    rw [e'] at ok
    exact okRun_at D pre sym post _ ok
  · obtain ⟨i, hi⟩ := List.mem_iff_getElem?.mp hp
    obtain ⟨y, _, hy⟩ := (run_all t hg).get hi
    exact ⟨t.val, by rw [hy [] 0]; rfl⟩
theorem hts_pos (t : Tr) : ∀ x ∈ t.hts, 1 ≤ x := fun x hx => by
  have h1 := (hts_mem t x).mp hx
  have h2 := need_le t
  omega
theorem run_value {t : Tr} {i : Nat} {p : List Int} (hg : t.Good) (hp : t.progs[i]? = some p) : ∃ h, t.hts[i]? = some h ∧ 1 ≤ h ∧ p.foldl mStep ([], 0) = ([t.val], h) := by
  obtain ⟨h, hh, hy⟩ := (run_all t hg).get hp
  have h1 := hts_pos t h (List.mem_of_getElem? hh)
  refine ⟨h, hh, h1, ?_⟩
  rw [hy [] 0]
  show ([t.val], max 0 ((0 : Nat) + h)) = _
  congr 1
  omega
theorem dep_small : ∀ t : Tr, t.dep + 1 ≤ t.leaves
  | .leaf _ => by simp [Tr.dep, Tr.leaves]
  | .node _ l r => by
    have h1 := dep_small l
    have h2 := dep_small r
    have l1 := leaves_pos l
    have l2 := leaves_pos r
    simp only [Tr.dep, Tr.leaves]
    omega
theorem need_two : ∀ t : Tr, 2 ≤ t.leaves → 2 ≤ t.need
  | .leaf _, h => by simp [Tr.leaves] at h
  | .node _ l r, _ => by
    have h1 := need_le l
    have h2 := need_le r
    simp only [Tr.need]
    split <;> omega
theorem max_depth {t : Tr} {M : Int} (h1 : M ∈ (t.toks 0).map (·.2)) (h2 : ∀ x ∈ (t.toks 0).map (·.2), x ≤ M) : M = t.dep := by
  obtain ⟨p, hp, rfl⟩ := List.mem_map.mp h1
  obtain ⟨a, q, hq, e⟩ := toks_dep t 0
  have b := a p hp
  have c := h2 _ (List.mem_map.mpr ⟨q, hq, rfl⟩)
  omega
/-- the loop over the programs -/
noncomputable def LawJ (t : Tr) (hl wl dl : Addr) (base : List (Addr × Obj)) (i : Nat) (m' : Str → Option Value) (nx : List (Addr × Obj)) : Prop :=
  ∃ hvs hn tv tn, nx = (hl, listOf (List.toArray hvs) hn) :: base ∧ IntsAre hvs (t.hts.take i) ∧ m' (Str.ofString "heights") = some (.ref hl) ∧ m' (Str.ofString "words") = some (.ref wl) ∧ m' (Str.ofString "value") = some (.int t.val tv) ∧ m' (Str.ofString "least") = some (.int t.need tn) ∧ m' (Str.ofString "depths") = some (.ref dl)
theorem five_in {m : Str → Option Value} {a b c d e : Str} {va vb vc vd ve : Value} (h1 : m a = some va) (h2 : m b = some vb) (h3 : m c = some vc) (h4 : m d = some vd) (h5 : m e = some ve) : ∀ p ∈ [(a, va), (b, vb), (c, vc), (d, vd), (e, ve)], m p.1 = some p.2 := fun p hp => by
  rcases List.mem_cons.mp hp with rfl | hp
  · exact h1
  rcases List.mem_cons.mp hp with rfl | hp
  · exact h2
  rcases List.mem_cons.mp hp with rfl | hp
  · exact h3
  rcases List.mem_cons.mp hp with rfl | hp
  · exact h4
  exact one_in h5 p hp
theorem law_turn {t : Tr} {hl wl dl : Addr} {base own led : List (Addr × Obj)} {i : Nat} {h₀ h' : Heap} {L : Addr} {m' : Str → Option Value} {hvs : List Value} {hn tk : Nat} {s₁ : Shared} {Q : Flow → Shared → Prop} {x : Int} {tx tv tn : Tok}
    (F : Fr h₀ L h' m') (N : News h₀ L h' led) (hs : ∀ p ∈ ((hl, listOf (List.toArray (hvs ++ [Value.int x tx])) (hn + 1)) :: base) ++ own, p ∈ led) (hi : IntsAre hvs (t.hts.take i)) (hx : t.hts[i]? = some x)
    (h1 : m' (Str.ofString "heights") = some (.ref hl)) (h2 : m' (Str.ofString "words") = some (.ref wl)) (h3 : m' (Str.ofString "value") = some (.int t.val tv)) (h4 : m' (Str.ofString "least") = some (.int t.need tn)) (h5 : m' (Str.ofString "depths") = some (.ref dl)) :
    AnyPost h₀ L (LawJ t hl wl dl base (i + 1)) own s₁ Q .next { s₁ with heap := h', toks := tk } := by
  refine ⟨h', tk, m', _, rfl, F, News.of_sub N hs, _, _, tv, tn, rfl, ?_, h1, h2, h3, h4, h5⟩
  rw [List.take_add_one, hx]
  exact hi.append (.cons _ _ .nil)
theorem upd_mid5 {D : Addr} {o o' : Obj} {post : List (Addr × Obj)} (h2 : ∀ p ∈ post, p.1 ≠ D) : ∀ {pre : List (Addr × Obj)}, (∀ p ∈ pre, p.1 ≠ D) → Upd D o o' (pre ++ (D, o) :: post) (pre ++ (D, o') :: post)
  | [], _ => .head h2
  | p :: _, h1 => .tail (h1 p (.head _)) (upd_mid5 h2 fun q hq => h1 q (.tail _ hq))
theorem app_at {prog : Program} {w : World} {A : Around} {E : Value → Shared → Prop} {s : Shared} {h₀ : Heap} {L D : Addr} {m : Str → Option Value} {vs : List Value} {n : Nat} {x : Value} {pre post : List (Addr × Obj)} {Q : Value → Shared → Prop} (F : Fr h₀ L s.heap m) (N : News h₀ L s.heap (pre ++ (D, listOf vs.toArray n) :: post)) (h1 : ∀ p ∈ pre, p.1 ≠ D) (h2 : ∀ p ∈ post, p.1 ≠ D) (hsz : vs.length ≤ 10000)
    (h : ∀ h', Fr h₀ L h' m → News h₀ L h' (pre ++ (D, listOf (vs ++ [x]).toArray (n + 1)) :: post) → Q .none { s with heap := h' }) : wpAny (model prog w) A (call (.builtin "list.append") [.ref D, x]) Q E s := by
  exact appL F N (upd_mid5 h2 h1) hsz h
section
variable {prog : Program} {w : World} {A : Around} {E : Value → Shared → Prop} {s : Shared} {env : Env} {h₀ : Heap} {x : Str} {body : List Stmt} {Q : Flow → Shared → Prop}
noncomputable abbrev lawNames (t : Tr) (hl wl dl : Addr) (tv tn : Tok) : List (Str × Value) := [(Str.ofString "heights", .ref hl), (Str.ofString "words", .ref wl), (Str.ofString "value", .int t.val tv), (Str.ofString "least", .int t.need tn), (Str.ofString "depths", .ref dl)]
theorem law_loop {t : Tr} {hl wl dl pa : Addr} {ow od : Obj} {rs : List Value} {pn : Nat} {tv₀ tn₀ : Tok} {m₀ : Str → Option Value} {base : List (Addr × Obj)} (hg : t.Good)
    (hh : A.handled = none) (F : Fr h₀ env.locals s.heap m₀) (N : News h₀ env.locals s.heap ((hl, listOf #[] 0) :: base)) (hlt : ∀ p ∈ base, p.1 < hl) (hpa : (pa, listOf rs.toArray pn) ∈ base) (hpall : All2 (PRel base) rs t.progs) (hwl : (wl, ow) ∈ base) (hdl : (dl, od) ∈ base)
    (hm : ∀ p ∈ lawNames t hl wl dl tv₀ tn₀, m₀ p.1 = some p.2)
    (turn : ∀ (base : List (Addr × Obj)) (i : Nat) hvs hn tv tn m₁ h tk own pi pvs pn' p hx, t.progs[i]? = some p → t.hts[i]? = some hx → 1 ≤ hx → p.foldl mStep ([], 0) = ([t.val], hx) → (wl, ow) ∈ base → (pi, listOf (List.toArray pvs) pn') ∈ base → IntsAre pvs p → IntsAre hvs (t.hts.take i) → (∀ p ∈ base, p.1 ≠ hl) → (∀ p ∈ own, p.1 ≠ hl) →
      Fr h₀ env.locals h (fun y => if y = x then some (.ref pi) else kstB m₁ (lawNames t hl wl dl tv tn) y) → News h₀ env.locals h ((hl, listOf (List.toArray hvs) hn) :: (base ++ own)) →
      ∀ P : Flow → Shared → Prop, (∀ f s', AnyPost h₀ env.locals (LawJ t hl wl dl base (i + 1)) own { s with heap := h, toks := tk } Q f s' → P f s') → wpAny (model prog w) A (execs body env) P E { s with heap := h, toks := tk })
    (done : ∀ (base : List (Addr × Obj)) hvs hn tv tn m₁ h tk, (dl, od) ∈ base → IntsAre hvs t.hts → Fr h₀ env.locals h (kstB m₁ (lawNames t hl wl dl tv tn)) → News h₀ env.locals h ((hl, listOf (List.toArray hvs) hn) :: base) → Q .next { s with heap := h, toks := tk }) :
    wpAny (model prog w) A (pyIter (.ref pa)) (fun it s₂ => LoopAtV prog w A h₀ env x body Q E it s₂) E s := by
  have hbn : ∀ p ∈ base, p.1 ≠ hl := fun p hp => Nat.ne_of_lt (hlt p hp)
  refine iter_any (LawJ t hl wl dl base) hh (.tail _ hpa) F N ⟨[], 0, tv₀, tn₀, rfl, .nil, hm _ (.head _), hm _ (.tail _ (.head _)), hm _ (.tail _ (.tail _ (.head _))), hm _ (.tail _ (.tail _ (.tail _ (.head _)))), hm _ (.tail _ (.tail _ (.tail _ (.tail _ (.head _)))))⟩ ?_ ?_ ?_
  · rintro i m nx ⟨hvs, hn, tv, tn, rfl, -⟩
    refine ⟨.tail _ hpa, fun p hp => .inl ?_⟩
    rcases List.mem_cons.mp hp with rfl | hp
    · exact .head _
    · exact .tail _ (List.mem_map_of_mem hp)
  · rintro i v m₁ nx h tk own hv hcls hsep ⟨hvs, hn, tv, tn, rfl, hi, h1, h2, h3, h4, h5⟩ F1 N1 P hP
    rw [kst_is' (five_in h1 h2 h3 h4 h5)] at F1
    obtain ⟨p, hp, pi, pvs, pn', rfl, hpm, hpi⟩ := hpall.get hv
    obtain ⟨hx, hhx, hx1, hrun⟩ := run_value hg hp
    exact turn base i hvs hn tv tn m₁ h tk own pi pvs pn' p hx hp hhx hx1 hrun hwl hpm hpi hi hbn (fun p hp => hsep p hp _ (.head _)) F1 N1 P hP
  · rintro m₁ nx h tk ⟨hvs, hn, tv, tn, rfl, hi, h1, h2, h3, h4, h5⟩ F1 N1
    rw [kst_is' (five_in h1 h2 h3 h4 h5)] at F1
    have e : t.hts.take rs.length = t.hts := by
      have h1 := hpall.length
      have h2 := (run_all t hg).length
      rw [h1, h2, List.take_length]
    rw [e] at hi
    exact done base hvs hn tv tn m₁ h tk hdl hi F1 N1
end
end

section
open PySem PySem.W PyProof.Rows PySem.Spec PySem.Calls
set_option Elab.async false
set_option linter.all false
/-- a tree as plain data -/
noncomputable def trD : Tr → PyData
  | .leaf k => .int (256 + (k : Int))
  | .node w l r => .tuple [.int (14 + (w : Int)), trD l, trD r]
theorem tree_reads {h₀ h : Heap} {L : Addr} {news : List (Addr × Obj)} {v : Value} {t : Tr} (N : News h₀ L h news) (ht : TreeIn news v t) : ∃ as, Reads h v (trD t) as := by
  induction ht with
  | leaf => exact ⟨_, .int _ _⟩
  | node hm _ _ il ir =>
    obtain ⟨a1, h1⟩ := il
    obtain ⟨a2, h2⟩ := ir
    exact ⟨_, reads_tuple_at (N _ hm).1 rfl rfl (.cons (.int _ _) (.cons h1 (.cons h2 .nil)))⟩
theorem trD_eqv : ∀ t : Tr, PyData.eqv (trD t) (trD t) = true
  | .leaf k => by simp [trD, PyData.eqv]
  | .node w l r => by simp [trD, PyData.eqv, PyData.eqvAll, trD_eqv l, trD_eqv r]
theorem trD_lay : ∀ t : Tr, (trD t).canLay0 = true
  | .leaf k => by simp [trD, PyData.canLay0]
  | .node w l r => by simp [trD, PyData.canLay0, PyData.canLayAll0, trD_lay l, trD_lay r]
theorem trD_depth : ∀ t : Tr, (trD t).depth < t.leaves
  | .leaf k => by simp [trD, PyData.depth, Tr.leaves]
  | .node w l r => by
    have h1 := trD_depth l
    have h2 := trD_depth r
    have l1 := leaves_pos l
    have l2 := leaves_pos r
    simp only [trD, PyData.depth, PyData.depthAll, Tr.leaves]
    omega
theorem tree_ne {prog : Program} {w : World} {A : Around} {E : Value → Shared → Prop} {s : Shared} {h₀ : Heap} {L : Addr} {news : List (Addr × Obj)} {v1 v2 : Value} {t : Tr} {Q : Value → Shared → Prop} (N : News h₀ L s.heap news) (h1 : TreeIn news v1 t) (h2 : TreeIn news v2 t) (hl : t.leaves ≤ 5) (hu : A.units + 64 < cLine)
    (h : Q (.bool false) s) : wpAny (model prog w) A (compareOp .NotEq v1 v2) Q E s := by
  obtain ⟨a1, r1⟩ := tree_reads N h1
  obtain ⟨a2, r2⟩ := tree_reads N h2
  have hs : SeqAt.shaped (trD t) = true := by
    have := trD_depth t
    simp only [SeqAt.shaped, trD_lay, Bool.true_and, decide_eq_true_eq]; omega
  refine ne_dataH r1 r2 hs hs hu ?_
  rw [trD_eqv]; exact h
/-- a strictly rising list whose members are the ints from a on, n of them -/
theorem rising_range : ∀ (n : Nat) (a : Int) (l : List Int), l.Pairwise (· < ·) → (∀ x, x ∈ l ↔ a ≤ x ∧ x < a + n) → l = rangeKs a n
  | 0, a, l, _, h => by
    have e : l = [] := List.eq_nil_iff_forall_not_mem.mpr fun x hx => by have := (h x).mp hx; omega
    rw [e]; rfl
  | n + 1, a, [], _, h => by
    have := (h a).mpr (by omega)
    cases this
  | n + 1, a, y :: l, hp, h => by
    have hp' := List.pairwise_cons.mp hp
    have hy := (h y).mp (.head _)
    have ey : y = a := by
      rcases List.mem_cons.mp ((h a).mpr (by omega)) with e | hm
      · exact e.symm
      · have := hp'.1 a hm; omega
    subst ey
    rw [rangeKs_succ]
    congr 1
    refine rising_range n (y + 1) l hp'.2 fun x => ⟨fun hx => ?_, fun hx => ?_⟩
    · have h1 := hp'.1 x hx
      have h2 := (h x).mp (.tail _ hx)
      omega
    · rcases List.mem_cons.mp ((h x).mpr (by omega)) with e | hm
      · omega
      · exact hm
end

section
open PySem PySem.W PyProof.Rows PySem.Spec PySem.Calls
set_option Elab.async false
set_option maxRecDepth 100000
set_option maxHeartbeats 2000000
set_option linter.all false
/-- the table of a small set of the ints 2..5 -/
noncomputable def tab (ks : List Nat) (led : Bool) : SetTable := { mask := 7, place := ks.toArray, dummies := #[], finger := 0, led := led, moves := 0, plain := true }
noncomputable def subs : List (List Nat) := [[], [2], [3], [4], [5], [2, 3], [2, 4], [2, 5], [3, 4], [3, 5], [4, 5], [2, 3, 4], [2, 3, 5], [2, 4, 5], [3, 4, 5], [2, 3, 4, 5]]
noncomputable abbrev pt (ks : List Nat) (x : Nat) : Nat := SetTable.below ks.toArray x
noncomputable abbrev ins (ks : List Nat) (x : Nat) : List Nat := ks.take (pt ks x) ++ x :: ks.drop (pt ks x)
theorem tab_facts : ∀ ks ∈ subs, ∀ x ∈ [2, 3, 4, 5], x ∉ ks → ∀ led : Bool,
    (tab ks led).freeSlot (x : Int) = some (x, false) ∧ (tab ks led).put x = (tab (ins ks x) led, pt ks x) ∧ ins ks x ∈ subs ∧ pt ks x ≤ ks.length ∧ (tab (ins ks x) led).tooFull = false := by decide +kernel
theorem tab_fits : ∀ ks ∈ subs, ∀ led : Bool, (tab ks led).fits ks.length = true := by decide +kernel
theorem subs_small : ∀ ks ∈ subs, ks.length ≤ 4 := by decide
theorem subs_mem : ∀ ks ∈ subs, ∀ k ∈ ks, 2 ≤ k ∧ k ≤ 5 := by decide
theorem subs_up : ∀ ks ∈ subs, ks.Pairwise (· < ·) := by decide
theorem hash_small : ∀ x ∈ [2, 3, 4, 5], hashInt (x : Nat) = (x : Int) := by decide +kernel
/-- the slot at which the walk stands after i items -/
noncomputable abbrev slotAt (ks : List Nat) (i : Nat) : Nat := match i with | 0 => 0 | j + 1 => ks.getD j 0 + 1
theorem tab_walk : ∀ ks ∈ subs, ∀ i ∈ [0, 1, 2, 3, 4], i ≤ ks.length → SetTable.below ks.toArray (slotAt ks i) = i := by decide +kernel
/-- the entries bear the ints -/
noncomputable abbrev EntRel (e : Int × Value) (k : Nat) : Prop := e.1 = (k : Int) ∧ ∃ t, e.2 = .int (k : Int) t
noncomputable abbrev Ents (es : Array (Int × Value)) (ks : List Nat) : Prop := All2 EntRel es.toList ks
theorem All2.app {α β : Type} {R : α → β → Prop} {xs xs' : List α} {ys ys' : List β} (h : All2 R xs ys) (h' : All2 R xs' ys') : All2 R (xs ++ xs') (ys ++ ys') := by
  induction h with
  | nil => exact h'
  | cons h _ ih => exact .cons h ih
theorem insertAt_list {α : Type} (xs : Array α) (p : Nat) (x : α) : (SetTable.insertAt xs p x).toList = xs.toList.take p ++ x :: xs.toList.drop p := by
  unfold SetTable.insertAt
  rw [Array.toList_append, Array.toList_push, Array.toList_extract, Array.toList_extract, List.append_assoc]
  simp [List.extract_eq_drop_take, List.take_of_length_le]
theorem Ents.ins {es : Array (Int × Value)} {ks : List Nat} {x : Nat} {t : Tok} (h : Ents es ks) (p : Nat) : All2 EntRel (SetTable.insertAt es p ((x : Int), Value.int (x : Int) t)).toList (ks.take p ++ x :: ks.drop p) := by
  rw [insertAt_list]
  exact All2.app (All2.take h p) (.cons ⟨rfl, t, rfl⟩ (All2.drop h p))
theorem Ents.size {es : Array (Int × Value)} {ks : List Nat} (h : Ents es ks) : es.size = ks.length := by
  rw [← h.length, Array.length_toList]
theorem mem_ins {ks : List Nat} {x y p : Nat} : y ∈ ks.take p ++ x :: ks.drop p ↔ y ∈ ks ∨ y = x := by
  have e : y ∈ ks ↔ y ∈ ks.take p ∨ y ∈ ks.drop p := by rw [← List.mem_append, List.take_append_drop]
  rw [e, List.mem_append, List.mem_cons]
  constructor
  · rintro (h | h | h)
    · exact .inl (.inl h)
    · exact .inr h
    · exact .inl (.inr h)
  · rintro ((h | h) | h)
    · exact .inl h
    · exact .inr (.inr h)
    · exact .inr (.inl h)
/-- what laying one more int yields -/
theorem layNew_tab {es : Array (Int × Value)} {ks : List Nat} {x : Nat} {t : Tok} {led : Bool} (hs : ks ∈ subs) (hx : x ∈ [2, 3, 4, 5]) (hn : x ∉ ks) (h : Ents es ks) :
    layNew (tab ks led) es (x : Int) (.int (x : Int) t) = (SetTable.insertAt es (pt ks x) ((x : Int), .int (x : Int) t), tab (ins ks x) led, false, false) := by
  obtain ⟨h1, h2, h3, h4, h5⟩ := tab_facts ks hs x hx hn led
  have e : (SetTable.insertAt es (pt ks x) ((x : Int), Value.int (x : Int) t)).size = (ins ks x).length := Ents.size (h.ins (x := x) (t := t) (pt ks x))
  have hf := tab_fits _ h3 led
  unfold layNew
  rw [h1]
  dsimp only
  rw [h2]
  dsimp only
  unfold SetTable.orStandIn
  rw [e, hf]
  rfl
end

section
open PySem PySem.W PyProof.Rows PySem.Spec PySem.Calls
set_option Elab.async false
set_option maxRecDepth 100000
set_option maxHeartbeats 2000000
set_option linter.all false
noncomputable abbrev setO (es : Array (Int × Value)) (ep : Nat) (ks : List Nat) (led : Bool) : Obj := { cls := .type "set", dict := none, data := .set es ep (tab ks led) }
noncomputable def SetAt (h : Heap) (a : Addr) (ks : List Nat) (led : Bool) : Prop := ∃ es ep, h.get? a = some (setO es ep ks led) ∧ Ents es ks ∧ ks ∈ subs
theorem five_of {x : Nat} (h1 : 2 ≤ x) (h2 : x ≤ 5) : x ∈ [2, 3, 4, 5] := by
  have h : x = 2 ∨ x = 3 ∨ x = 4 ∨ x = 5 := by omega
  rcases h with rfl | rfl | rfl | rfl <;> simp
theorem Ents.mem : ∀ {l : List (Int × Value)} {ks : List Nat}, All2 EntRel l ks → ∀ e ∈ l, ∃ k ∈ ks, EntRel e k
  | _, _, .nil, e, h => nomatch h
  | _, _, .cons hr r, e, h => by
    rcases List.mem_cons.mp h with rfl | h
    · exact ⟨_, .head _, hr⟩
    · obtain ⟨k, hk, hr'⟩ := Ents.mem r e h
      exact ⟨k, .tail _ hk, hr'⟩
theorem Ents.mem' : ∀ {l : List (Int × Value)} {ks : List Nat}, All2 EntRel l ks → ∀ k ∈ ks, ∃ e ∈ l, EntRel e k
  | _, _, .nil, e, h => nomatch h
  | _, _, .cons hr r, e, h => by
    rcases List.mem_cons.mp h with rfl | h
    · exact ⟨_, .head _, hr⟩
    · obtain ⟨k, hk, hr'⟩ := Ents.mem' r e h
      exact ⟨k, .tail _ hk, hr'⟩
theorem Ents.elems {prog : Program} {w : World} {es : Array (Int × Value)} {ks : List Nat} (hs : ks ∈ subs) (h : Ents es ks) : ElemsOf (intKind prog w) es.toList := fun e he => by
  obtain ⟨k, hk, h1, t, h2⟩ := Ents.mem h e he
  have hb := subs_mem ks hs k hk
  refine ⟨⟨(k : Int), ?_, ?_⟩, ?_⟩
  · rw [h2]; show Value.isInt (k : Int) (.int (k : Int) t) = true; simp [Value.isInt]
  · rw [h1]; exact (hash_small k (five_of hb.1 hb.2)).symm
  · rw [h2]; rfl
section
variable {prog : Program} {w : World} {A : Around} {E : Value → Shared → Prop} {s : Shared}
theorem add_tab {a : Addr} {ks : List Nat} {led : Bool} {x : Nat} {t : Tok} {Q : Bool → Shared → Prop} (hx : x ∈ [2, 3, 4, 5]) (hS : SetAt s.heap a ks led)
    (h : ∀ b h', Heap.SameBut a s.heap h' → SetAt h' a (if x ∈ ks then ks else ins ks x) led → Q b { s with heap := h' }) :
    wpAny (model prog w) A (setAddHashed a (.int (x : Int) t) (hashInt (x : Int))) Q E s := by
  obtain ⟨es, ep, ho, he, hs⟩ := hS
  have hsz := he.size
  have h4 := subs_small ks hs
  have hf : (tab ks led).fits es.size = true := by rw [hsz]; exact tab_fits ks hs led
  have hel := Ents.elems (prog := prog) (w := w) hs he
  have hkey : (intKind prog w).is (x : Int) (.int (x : Int) t) = true := intKind_is _ _ _ _
  have hb : es.size < scanBound := by unfold scanBound; omega
  unfold setAddHashed setAddHashedIn
  refine wpAny_holding (wpAny_bind (wpAny_setState_of ho rfl hf ?_))
  dsimp only
  rw [byScan_of (knd := intKind prog w) rfl hb hel]
  simp only [↓reduceIte]
  unfold setAddByScan
  refine wpAny_bind ?_
  refine wpAny_bind (wpAny_rule ?_)
  refine wpAny_bind (wpAny_setScan_of (knd := intKind prog w) (k := (x : Int)) hkey ho rfl hf hel ?_)
  cases hr : List.findIdx? (fun e => (intKind prog w).is (x : Int) e.2) es.toList with
  | some j =>
    dsimp only
    obtain ⟨hj, hpj, _⟩ := List.findIdx?_eq_some_iff_getElem.mp hr
    obtain ⟨k, hk, h1, t', h2⟩ := Ents.mem he _ (List.getElem_mem hj)
    have hxk : x = k := by
      have hp : Value.isInt (x : Int) (es.toList[j]).2 = true := hpj
      rw [h2] at hp
      simp [Value.isInt] at hp
      omega
    subst hxk
    refine wpAny_pure (wpAny_pure ?_)
    have e : s = { s with heap := s.heap } := by cases s; rfl
    rw [e]
    exact h _ _ (Heap.SameBut.refl a s.heap) ⟨es, ep, by rw [if_pos hk]; exact ho, by rw [if_pos hk]; exact he, by rw [if_pos hk]; exact hs⟩
  | none =>
    dsimp only
    have hn : x ∉ ks := fun hm => by
      obtain ⟨e, hme, h1, t', h2⟩ := Ents.mem' he x hm
      have := List.findIdx?_eq_none_iff.mp hr e hme
      have hp : Value.isInt (x : Int) e.2 = false := this
      rw [h2] at hp
      simp [Value.isInt] at hp
    obtain ⟨_, _, hs', _, h5⟩ := tab_facts ks hs x hx hn led
    have he' := he.ins (x := x) (t := t) (pt ks x)
    have hsz' : (SetTable.insertAt es (pt ks x) ((x : Int), Value.int (x : Int) t)).size = (ins ks x).length := Ents.size he'
    have h4' := subs_small _ hs'
    rw [show hashInt (x : Int) = (x : Int) from hash_small x hx, layNew_tab hs hx hn he]
    dsimp only
    refine wpAny_bind (wpAny_pure ?_)
    rw [if_pos (show (tab (ins ks x) led).plain = true from rfl)]
    refine wpAny_bind ?_
    rw [hashByValue_scannable 8 rfl]
    refine wpAny_pure ?_
    rw [show plainKind (.int (x : Int) t) = true from rfl]
    simp only [↓reduceIte]
    refine wpAny_bind (wpAny_storeSet_of ho rfl ?_ (by rw [hsz', sizeLine_eq]; omega))
    rw [h5, if_neg (by decide)]
    refine wpAny_pure (wpAny_pure ?_)
    refine h _ _ (Heap.SameBut.update ..) ?_
    rw [if_neg hn]
    refine ⟨_, ep + 1, ?_, he', hs'⟩
    have := Heap.get?_update_self (Obj.putSet (SetTable.insertAt es (pt ks x) ((x : Int), Value.int (x : Int) t)) (tab (ins ks x) led)) ho (by rfl)
    exact this
end
end

section
open PySem PySem.W PyProof.Rows PySem.Spec PySem.Calls
set_option Elab.async false
set_option maxRecDepth 100000
set_option maxHeartbeats 4000000
set_option linter.all false
noncomputable def ksAt (val : Nat → Nat) : Nat → List Nat
  | 0 => []
  | i + 1 => if val i ∈ ksAt val i then ksAt val i else ins (ksAt val i) (val i)
theorem mem_ksAt (val : Nat → Nat) : ∀ (i y : Nat), y ∈ ksAt val i ↔ ∃ j, j < i ∧ val j = y
  | 0, y => by simp [ksAt]
  | i + 1, y => by
    have ih := mem_ksAt val i y
    have e : y ∈ ksAt val (i + 1) ↔ y ∈ ksAt val i ∨ y = val i := by
      simp only [ksAt]
      by_cases h : val i ∈ ksAt val i
      · rw [if_pos h]
        exact ⟨.inl, fun h' => h'.elim id fun e => e ▸ h⟩
      · rw [if_neg h]; exact mem_ins
    rw [e, ih]
    constructor
    · rintro (⟨j, hj, e⟩ | e)
      · exact ⟨j, by omega, e⟩
      · exact ⟨i, by omega, e.symm⟩
    · rintro ⟨j, hj, e1⟩
      by_cases h : j = i
      · exact .inr (h ▸ e1).symm
      · exact .inl ⟨j, by omega, e1⟩
theorem SetAt.sameAt {h h' : Heap} {a : Addr} {ks : List Nat} {led : Bool} (x : SetAt h a ks led) (e : ∀ o, h.get? a = some o → h'.get? a = some o) : SetAt h' a ks led :=
  let ⟨es, ep, ho, r⟩ := x; ⟨es, ep, e _ ho, r⟩
section
variable {prog : Program} {w : World} {A : Around} {R : Result → Shared → Prop} {I : Addr} {fp wr : List Addr} {G : Array GenState → Array GenState → Prop} {n : Nat} {P : Nat → Value → Prop} {St : Nat → Shared → Prop}
theorem upd_loop (W : WalksS prog w A.in1 I fp wr G n P St) (S : Addr) (hSf : S ∉ fp) (val : Nat → Nat) (led : Bool) (hval : ∀ i v, P i v → ∃ t, v = .int (val i : Int) t) (hb : ∀ i, i < n → val i ∈ [2, 3, 4, 5]) :
    ∀ (k i : Nat) (s : Shared), n - i = k → i ≤ n → St i s → SetAt s.heap S (ksAt val i) led →
      (∀ s', Moved (S :: wr) G s s' → SetAt s'.heap S (ksAt val n) led → R (.ok (.ret .none)) s') →
      codeAny (model prog w) A (.builtin "set.update.loop" ⟨[.ref S, .ref I], []⟩) R s := by
  have hSw : S ∉ wr := fun h => hSf (W.sub _ h)
  have hsub : ∀ b ∈ wr, b ∈ S :: wr := fun b hb => List.mem_cons_of_mem _ hb
  intro k
  induction k with
  | zero =>
    intro i s hk hi hst hS hR
    have hin : i = n := by omega
    subst hin
    refine codeAny_builtin F.entry_set_update_loop ?_
    rw [Around.under_plainId F.plain_set_update_loop _]
    show wpAny _ A.in1 (pyNext (.ref I) >>= _) _ _ s
    refine wpAny_bind (W.done s _ _ hst fun s' hm => ?_)
    show wpAny _ A.in1 (ret Value.none) _ _ s'
    exact wpAny_pure (hR s' (hm.mono hsub) (hS.sameAt fun o e => hm.heap S _ hSw e))
  | succ k ih =>
    intro i s hk hi hst hS hR
    have hlt : i < n := by omega
    refine codeAny_builtin F.entry_set_update_loop ?_
    rw [Around.under_plainId F.plain_set_update_loop _]
    show wpAny _ A.in1 (pyNext (.ref I) >>= _) _ _ s
    refine wpAny_bind (W.item i s _ _ hlt hst fun v s' hP hst' hm => ?_)
    obtain ⟨t, rfl⟩ := hval i v hP
    have hS' : SetAt s'.heap S (ksAt val i) led := hS.sameAt fun o e => hm.heap S _ hSw e
    show wpAny _ A.in1 (holding [Value.int (val i : Int) t] (setAdd S (.int (val i : Int) t)) >>= _) _ _ s'
    refine wpAny_bind (wpAny_holding ?_)
    unfold setAdd
    refine wpAny_holding ?_
    refine wpAny_bind ((intKind prog w).pyHash (k := (val i : Int)) (intKind_is _ _ _ _) ?_)
    refine add_tab (s := { s' with toks := s'.toks + 1 }) (hb i hlt) hS' fun b h' hsb hS2 => ?_
    refine wpAny_pure ⟨plainId_quiet F.plain_set_update_loop _, ih (i + 1) _ (by omega) hlt (W.frame _ s' _ _ hst' (Nat.le_succ _) fun b hb o e => ?_) hS2 fun s'' hm'' hS'' => ?_⟩
    · rw [hsb.2 b (fun h : b = S => hSf (by rw [← h]; exact hb))]; exact e
    · refine hR s'' (Moved.trans W.gtrans ((hm.mono hsub).then_heap (Nat.le_succ _) fun b o hb e => ?_) hm'') hS''
      rw [hsb.2 b (fun h : b = S => hb (by rw [h]; exact List.mem_cons_self))]; exact e
end
noncomputable abbrev ledOf (w : World) : Bool := !w.params.followText "set-order"
section
variable {prog : Program} {w : World} {A : Around} {E : Value → Shared → Prop} {s : Shared}
theorem set_new_1 (a : Value) {Q₁ : Value → Shared → Prop}
    (h : Q₁ (.ref s.heap.objs.size) { s with heap := s.heap.push (setO #[] 0 [] (ledOf w)) }) :
    codeAny (model prog w) A (.call (.builtin "set.__new__") ⟨[.type "set", a], []⟩) (wants Q₁ E) s := by
  refine codeAny_of_tree ?_
  show wpAny _ A.in1 (do checkBuiltinCall "set.__new__" ⟨[.type "set", a], []⟩; again (.builtin "set.__new__" ⟨[.type "set", a], []⟩)) _ _ s
  refine wpAny_bind (wpAny_of_eq (F.newCall_set_1 a) (wpAny_pure ⟨plainId_quiet F.plain_set_new _, codeAny_builtin F.entry_set_new ?_⟩))
  rw [Around.under_plainId F.plain_set_new _]
  unfold Builtin.«set.__new__» Builtin.Frozenset.newClass
  have hsub := sub_set_self
  obtain ⟨hp, g, d, tk, os⟩ := s
  dsimp only
  wp_walk
  refine wpAny_askSetting (wpAny_pure ?_)
  dsimp only
  simp only [newObj]
  refine wpAny_bind (wpAny_alloc (wpAny_pure ?_))
  exact wpAny_pure h
theorem call_set {l : Addr} {items : Array Value} {val : Nat → Nat} {Q : Value → Shared → Prop}
    (hh : A.handled = none) (hl : s.heap.IsList l items) (hval : ∀ (i : Nat) (v : Value), items[i]? = some v → ∃ t, v = .int (val i : Int) t) (hb : ∀ i, i < items.size → val i ∈ [2, 3, 4, 5])
    (h : ∀ (h' : Heap) (tk : Nat), SetAt h' s.heap.objs.size (ksAt val items.size) (ledOf w) →
      (∀ b o, b < s.heap.objs.size → s.heap.get? b = some o → h'.get? b = some o) → Q (.ref s.heap.objs.size) { s with heap := h', toks := tk }) :
    wpAny (model prog w) A (call (.type "set") [.ref l]) Q E s := by
  obtain ⟨c, tl, hmro⟩ := F.called_set.mro
  have hmade := F.called_set.made
  have hsub := F.called_set.sub
  refine wpAny_call (codeAny_of_tree ?_)
  show wpAny _ _ (callAny (.type "set") _) _ _ _
  refine wpAny_pure ⟨Code.quiet_builtin _ (by decide +kernel), codeAny_builtin F.entry_type_call ?_⟩
  rw [Around.under_plain (weight_type_call_type "set" [.ref l] []) rfl]
  have h1 := F.called_set.notType
  have h2 := F.called_set.canCreate
  have hct := F.typeCall_set_1 (.ref l)
  repeat (any_goals (first | assumption | wp_step))
  clear h1 h2 hct hmade
  refine codeAny_mono (set_new_1 (.ref l) (E := E) (Q₁ := fun obj s₁ => obj = .ref s.heap.objs.size ∧ s₁ = { s with heap := s.heap.push (setO #[] 0 [] (ledOf w)) }) ⟨rfl, rfl⟩) fun r s₁ hr => ?_
  cases r with
  | error e => exact hr
  | ok fl =>
    cases fl with
    | ret obj =>
      obtain ⟨rfl, rfl⟩ := hr
      have hS : (s.heap.push (setO #[] 0 [] (ledOf w))).get? s.heap.objs.size = some (setO #[] 0 [] (ledOf w)) := Heap.get?_push_size _ rfl
      have hT : Shared.TypeIs { s with heap := s.heap.push (setO #[] 0 [] (ledOf w)) } (.ref s.heap.objs.size) "set" := ⟨_, hS, rfl⟩
      have hli := F.called_set.init.lookup
      have hbi := F.called_set.init.bind (.ref s.heap.objs.size)
      repeat (any_goals (first | assumption | wp_step))
      refine codeAny_mono (codeAny_call_builtin (R := wants (fun r s₂ => r = .none ∧ ∃ h' tk, s₂ = { s with heap := h', toks := tk } ∧ SetAt h' s.heap.objs.size (ksAt val items.size) (ledOf w) ∧
          (∀ b o, b < s.heap.objs.size → s.heap.get? b = some o → h'.get? b = some o)) E) F.called_set.init.plain F.entry_set_init (check_set_init_1 hT ?_)) fun r₂ s₂ hr₂ => ?_
      · obtain ⟨ol, hol, hcl, nl, hdl⟩ := hl
        obtain ⟨ocls, odict, odata, oslots⟩ := ol
        simp only at hcl hdl
        subst hcl; subst hdl
        have hol' : (s.heap.push (setO #[] 0 [] (ledOf w))).get? l = some { cls := .type "list", dict := odict, data := .seq items nl, slots := oslots } := Heap.get?_push_of_some _ hol
        have hsls := F.sub_list_set
        have hslf := F.sub_list_frozenset
        have hne : (Value.type "list" == Value.type "dict") = false := by decide
        have hl1 : (s.heap.push (setO #[] 0 [] (ledOf w))).IsList l items := ⟨_, hol', rfl, nl, rfl⟩
        unfold Builtin.«set.__init__» noKeywords Builtin.Frozenset.updateFrom
        generalize hPI : pyIter = PI
        wp_walk
        subst hPI
        refine wpAny_pyIter_list hl1 ?_
        refine wpAny_bind (wpAny_runValue ?_)
        have hlS : l < s.heap.objs.size := Heap.lt_size hol
        have hh3 : A.in1.in1.in1.handled = none := by simp [hh]
        have hneI : l ≠ (s.heap.push (setO #[] 0 [] (ledOf w))).objs.size := by
          rw [Heap.size_push]; exact Nat.ne_of_lt (Nat.lt_succ_of_lt hlS)
        have hSf : s.heap.objs.size ∉ [(s.heap.push (setO #[] 0 [] (ledOf w))).objs.size, l] := by
          rw [Heap.size_push]; simp only [List.mem_cons, List.mem_singleton, List.not_mem_nil, or_false, not_or]
          exact ⟨Nat.ne_of_lt (Nat.lt_succ_self _), Nat.ne_of_gt hlS⟩
        refine upd_loop ((Walks.list hh3 _ l hneI items).toS) s.heap.objs.size hSf val (ledOf w) hval hb (items.size - 0) 0 _ (by omega) (Nat.zero_le _)
          ⟨⟨_, Heap.get?_push_size _ rfl, rfl, rfl⟩, (hl1.push _)⟩ ⟨#[], 0, Heap.get?_push_of_some _ hS, .nil, (by show ([] : List Nat) ∈ subs; decide)⟩ ?hR
        case hR =>
          intro s' hm hS'
          obtain ⟨h', g', d', tk', os'⟩ := s'
          have eg : g' = s.gens := hm.gens
          have ed : d' = s.drawn := hm.drawn
          have eo : os' = s.os := hm.os
          subst eg; subst ed; subst eo
          show wpAny _ _ _ _ _ _
          refine wpAny_pure ?_
          show wpAny _ _ (ret Value.none) _ _ _
          refine wpAny_pure ⟨rfl, h', tk', rfl, hS', fun b o hb e => ?_⟩
          have hb1 : b ≠ s.heap.objs.size := Nat.ne_of_lt hb
          have hb2 : b ≠ (s.heap.push (setO #[] 0 [] (ledOf w))).objs.size := by
            rw [Heap.size_push]; exact Nat.ne_of_lt (Nat.lt_succ_of_lt hb)
          exact hm.heap b o (by simp only [List.mem_cons, List.mem_singleton, List.not_mem_nil, or_false, not_or]; exact ⟨hb1, hb2⟩) (Heap.get?_push_of_some _ (Heap.get?_push_of_some _ e))
      · cases r₂ with
        | error e => exact hr₂
        | ok fl₂ =>
          cases fl₂ with
          | ret r =>
            obtain ⟨rfl, h', tk, rfl, hS', hk'⟩ := hr₂
            repeat (any_goals (first | assumption | wp_step))
            exact h _ _ hS' hk'
          | _ => exact hr₂.elim
    | _ => exact hr.elim
end
end

section
open PySem PySem.W PyProof.Rows PySem.Spec PySem.Calls
set_option Elab.async false
set_option maxRecDepth 100000
set_option maxHeartbeats 4000000
set_option linter.all false
theorem entry_set_iter : entryFor table "set.__iter__" = some Builtin.«frozenset.__iter__» :=
  entryFor_alias (id' := "frozenset.__iter__") (by kernel_rfl) rfl (by decide +kernel) (by kernel_rfl)
theorem slot_setit_next : Slot "set_iterator" "__next__" "set_iterator.__next__" :=
  .of (owner := "set_iterator") (n := "__next__") (by rw [typeLookup_type, builtinLookup_eq_fast]; kernel_rfl) (by decide +kernel) (by decide +kernel) (by decide +kernel)
    (by first | exact .inl (by decide +kernel) | exact .inr (by decide +kernel)) (by rw [isSubtype_type]; kernel_rfl)
theorem entry_setit_next : entryFor table "set_iterator.__next__" = some Builtin.«set_iterator.__next__» := entryFor_of_tree (by kernel_rfl)
theorem args_setit_next (a : Value) : argsOk "set_iterator.__next__" ⟨[a], []⟩ := by unfold argsOk; kernel_rfl
theorem slot_setit_iter : Slot "set_iterator" "__iter__" "set_iterator.__iter__" :=
  .of (owner := "set_iterator") (n := "__iter__") (by rw [typeLookup_type, builtinLookup_eq_fast]; kernel_rfl) (by decide +kernel) (by decide +kernel) (by decide +kernel)
    (by first | exact .inl (by decide +kernel) | exact .inr (by decide +kernel)) (by rw [isSubtype_type]; kernel_rfl)
theorem entry_setit_iter : entryFor table "set_iterator.__iter__" = some Builtin.«dict_keyiterator.__iter__» :=
  entryFor_alias (id' := "dict_keyiterator.__iter__") (by kernel_rfl) rfl (by decide +kernel) (by kernel_rfl)
theorem args_setit_iter (a : Value) : argsOk "set_iterator.__iter__" ⟨[a], []⟩ := by unfold argsOk; kernel_rfl
end

section
open PySem PySem.W PyProof.Rows PySem.Spec PySem.Calls
set_option Elab.async false
set_option maxRecDepth 100000
set_option maxHeartbeats 4000000
set_option linter.all false
theorem erase_perm {α : Type} : ∀ (l : List α) (i : Nat) (h : i < l.length), (l[i] :: l.eraseIdx i).Perm l
  | x :: l, 0, _ => List.Perm.refl _
  | x :: l, i + 1, h => by
    have ih := erase_perm l i (by simpa using h)
    show (l[i]'(by simpa using h) :: x :: l.eraseIdx i).Perm (x :: l)
    exact (List.Perm.swap _ _ _).trans (List.Perm.cons x ih)
theorem pick_go {α : Type} (next : Nat → Nat) : ∀ (n k : Nat) (left : List α) (out : Array α), n = left.length → (pickOrder.go next n k left out).toList.Perm (out.toList ++ left)
  | 0, k, left, out, h => by
    have e : left = [] := List.eq_nil_of_length_eq_zero h.symm
    subst e
    simp [pickOrder.go]
  | n + 1, k, left, out, h => by
    have hp : 0 < left.length := by omega
    have hi : next k % left.length < left.length := Nat.mod_lt _ hp
    unfold pickOrder.go
    rw [List.getElem?_eq_getElem hi]
    dsimp only
    have ih := pick_go next n (k + 1) (left.eraseIdx (next k % left.length)) (out.push left[next k % left.length]) (by rw [List.length_eraseIdx, if_pos hi]; omega)
    refine ih.trans ?_
    rw [Array.toList_push, List.append_assoc]
    exact List.Perm.append_left _ (erase_perm left _ hi)
theorem pick_perm {α : Type} (next : Nat → Nat) (xs : Array α) : (pickOrder next xs).toList.Perm xs.toList := by
  have := pick_go next xs.size 0 xs.toList #[] (by simp)
  simpa [pickOrder] using this
/-- the order in which a set is walked -/
noncomputable def ordOf (w : World) (S : Addr) (ep : Nat) (es : Array (Int × Value)) : Array (Int × Value) := if w.params.followText "set-order" = true then pickOrder (w.params.setOrder S ep) es else es
theorem ord_perm (w : World) (S : Addr) (ep : Nat) (es : Array (Int × Value)) : (ordOf w S ep es).toList.Perm es.toList := by
  unfold ordOf
  split
  · exact pick_perm _ _
  · exact List.Perm.refl _
theorem ord_size (w : World) (S : Addr) (ep : Nat) (es : Array (Int × Value)) : (ordOf w S ep es).size = es.size := by
  rw [← Array.length_toList, ← Array.length_toList, (ord_perm w S ep es).length_eq]
section
variable {prog : Program} {w : World} {A : Around} {E : Value → Shared → Prop} {s : Shared}
theorem setNext_at {S : Addr} {es : Array (Int × Value)} {ep : Nat} {ks : List Nat} {slot i : Nat} {Q : Option (Value × Nat) → Shared → Prop} (ho : s.heap.get? S = some (setO es ep ks (ledOf w))) (he : Ents es ks) (hs : ks ∈ subs)
    (hslot : w.params.followText "set-order" = false → slot = slotAt ks i) (hi : i ≤ es.size)
    (h : ∀ slot', (w.params.followText "set-order" = false → slot' = slotAt ks (i + 1)) → Q ((ordOf w S ep es)[i]?.map fun e => (e.2, slot')) s) :
    wpAny (model prog w) A (setNext S slot i ep) Q E s := by
  have hsz := he.size
  have h4 := subs_small ks hs
  have hf : (tab ks (ledOf w)).fits es.size = true := by rw [hsz]; exact tab_fits ks hs _
  unfold setNext
  refine wpAny_bind (wpAny_setState_of ho rfl hf ?_)
  dsimp only
  unfold setsByText
  refine wpAny_bind (wpAny_bind (wpAny_askSetting (wpAny_pure ?_)))
  show wpAny _ _ (if w.params.followText "set-order" = true then _ else _) _ _ _
  by_cases hb : w.params.followText "set-order" = true
  · rw [if_pos hb]
    rw [if_neg (by simp)]
    refine wpAny_bind ?_
    unfold setWalk
    refine wpAny_bind (wpAny_setState_of ho rfl hf ?_)
    dsimp only
    unfold setsByText
    refine wpAny_bind (wpAny_bind (wpAny_askSetting (wpAny_pure ?_)))
    show wpAny _ _ (if w.params.followText "set-order" = true then _ else _) _ _ _
    rw [if_pos hb]
    refine wpAny_bind (wpAny_askSetting (wpAny_pure ?_))
    refine wpAny_pure ?_
    have := h slot fun e => by rw [hb] at e; cases e
    unfold ordOf at this
    rw [if_pos hb] at this
    exact this
  · have hb' : w.params.followText "set-order" = false := by simpa using hb
    rw [if_neg hb]
    have hled : ledOf w = true := by unfold ledOf; rw [hb']; rfl
    split
    · rename_i hd
      exact absurd (show false = true from hd) Bool.false_ne_true
    refine wpAny_bind ?_
    show wpAny _ _ (if (!(ledOf w) && !es.isEmpty) = true then _ else _) _ _ _
    rw [hled, if_neg (by simp)]
    refine wpAny_pure (wpAny_pure ?_)
    have hb2 : SetTable.below ks.toArray slot = i := by
      rw [hslot hb']
      exact tab_walk ks hs i (by have h : i = 0 ∨ i = 1 ∨ i = 2 ∨ i = 3 ∨ i = 4 := by omega
                                 rcases h with rfl | rfl | rfl | rfl | rfl <;> simp) (by omega)
    have hh := h (slotAt ks (i + 1)) fun _ => rfl
    have e1 : ordOf w S ep es = es := by unfold ordOf; rw [if_neg hb]
    rw [e1] at hh
    show Q (match es[SetTable.below ks.toArray slot]?, ks.toArray[SetTable.below ks.toArray slot]? with | some (_, x), some j => some (x, j + 1) | _, _ => none) s
    rw [hb2]
    rcases Nat.lt_or_ge i ks.length with hlt | hge
    · have g1 : es[i]? = some es[i] := Array.getElem?_eq_getElem (by omega)
      have g2 : ks.toArray[i]? = some ks[i] := by rw [List.getElem?_toArray]; exact List.getElem?_eq_getElem hlt
      rw [g1] at hh
      rw [g1, g2]
      have g3 : slotAt ks (i + 1) = ks[i] + 1 := by
        show ks.getD i 0 + 1 = _
        rw [List.getD_eq_getElem?_getD, List.getElem?_eq_getElem hlt]; rfl
      rw [g3] at hh
      exact hh
    · have g1 : es[i]? = none := Array.getElem?_eq_none (by omega)
      rw [g1] at hh
      rw [g1]
      exact hh
end
end

section
open PySem PySem.W PyProof.Rows PySem.Spec PySem.Calls
set_option Elab.async false
set_option maxRecDepth 100000
set_option maxHeartbeats 4000000
set_option linter.all false
noncomputable def IsSetIter (h : Heap) (I S : Addr) (slot i n ep : Nat) : Prop := ∃ o, h.get? I = some o ∧ o.cls = .type "set_iterator" ∧ o.data = .fields #[.int (slot : Int) 0, .int (i : Int) 0, .ref S, .int (n : Int) 0, .int (ep : Int) 0]
theorem IsSetIter.typeIs {s : Shared} {I S : Addr} {slot i n ep : Nat} (x : IsSetIter s.heap I S slot i n ep) : s.TypeIs (.ref I) "set_iterator" := let ⟨o, ho, hc, _⟩ := x; ⟨o, ho, hc⟩
theorem IsSetIter.sameAt {h h' : Heap} {I S : Addr} {slot i n ep : Nat} (x : IsSetIter h I S slot i n ep) (e : ∀ o, h.get? I = some o → h'.get? I = some o) : IsSetIter h' I S slot i n ep := let ⟨o, ho, r⟩ := x; ⟨o, e _ ho, r⟩
section
variable {prog : Program} {w : World} {A : Around} {E : Value → Shared → Prop} {s : Shared}
theorem iter_set {S : Addr} {es : Array (Int × Value)} {ep : Nat} {ks : List Nat} {led : Bool} {Q : Value → Shared → Prop} (ho : s.heap.get? S = some (setO es ep ks led)) (he : Ents es ks) (hs : ks ∈ subs)
    (h : Q (.ref s.heap.objs.size) { s with heap := s.heap.push { cls := .type "set_iterator", data := .fields #[.int ((0 : Nat) : Int) 0, .int ((0 : Nat) : Int) 0, .ref S, .int (es.size : Int) 0, .int (ep : Int) 0] } }) :
    wpAny (model prog w) A (pyIter (.ref S)) Q E s := by
  have hsz := he.size
  have hf : (tab ks led).fits es.size = true := by rw [hsz]; exact tab_fits ks hs _
  have hT : s.TypeIs (.ref S) "set" := ⟨_, ho, rfl⟩
  refine wpAny_pyIter_slot hT F.slot_set_iter (wpAny_call_entry F.slot_set_iter hT entry_set_iter ?_ (F.args_set_iter_1 _))
  unfold Builtin.«frozenset.__iter__» Builtin.Frozenset.slot0 slotArgs
  simp only [List.isEmpty_nil, Bool.not_true, Bool.false_eq_true, ↓reduceIte, bind_assoc, List.length_nil, bne_self_eq_false]
  unfold Builtin.Frozenset.addrOf Builtin.Frozenset.sizeOf
  refine wpAny_bind (wpAny_pure ?_)
  try dsimp only
  refine wpAny_bind (wpAny_pure ?_)
  refine wpAny_bind (wpAny_bind (wpAny_setEntries_of ho rfl hf (wpAny_pure ?_)))
  unfold setDrawn
  refine wpAny_bind (wpAny_bind (wpAny_setState_of ho rfl hf ?_))
  dsimp only
  unfold setsByText
  refine wpAny_bind (wpAny_bind (wpAny_askSetting (wpAny_pure ?_)))
  refine wpAny_pure ?_
  split
  · rename_i hd
    have : (!(_ : Bool) && false) = true := hd
    simp at this
  refine wpAny_bind (wpAny_pure ?_)
  refine wpAny_bind (wpAny_setEpoch_of ho rfl hf ?_)
  refine wpAny_bind (wpAny_newObj_type (wpAny_pure ⟨_, rfl, "set_iterator", _, ⟨_, Heap.get?_push_size _ rfl, rfl⟩, slot_setit_next.lookup, ?_⟩))
  exact h
theorem iter_setit {I S : Addr} {slot i n ep : Nat} {Q : Value → Shared → Prop} (hit : IsSetIter s.heap I S slot i n ep) (h : Q (.ref I) s) : wpAny (model prog w) A (pyIter (.ref I)) Q E s := by
  refine wpAny_pyIter_slot hit.typeIs slot_setit_iter (wpAny_call_entry slot_setit_iter hit.typeIs entry_setit_iter ?_ (args_setit_iter _))
  show wpAny _ _ (ret (.ref I)) _ _ s
  exact wpAny_pure ⟨_, rfl, "set_iterator", _, hit.typeIs, slot_setit_next.lookup, h⟩
theorem next_item {I S : Addr} {es : Array (Int × Value)} {slot i ep : Nat} {ks : List Nat} {e : Int × Value} {Q : Option Value → Shared → Prop} (hit : IsSetIter s.heap I S slot i es.size ep) (ho : s.heap.get? S = some (setO es ep ks (ledOf w))) (he : Ents es ks) (hs : ks ∈ subs)
    (hslot : w.params.followText "set-order" = false → slot = slotAt ks i) (hx : (ordOf w S ep es)[i]? = some e)
    (hQ : ∀ slot' h', (w.params.followText "set-order" = false → slot' = slotAt ks (i + 1)) → IsSetIter h' I S slot' (i + 1) es.size ep → Heap.SameBut I s.heap h' → Q (some e.2) { s with heap := h' }) :
    wpAny (model prog w) A (pyNext (.ref I)) Q E s := by
  have hsz := he.size
  have hf : (tab ks (ledOf w)).fits es.size = true := by rw [hsz]; exact tab_fits ks hs _
  have hlt : i < es.size := by rw [← ord_size w S ep es]; exact (Array.getElem?_eq_some_iff.mp hx).1
  obtain ⟨o, hoI, hc, hd⟩ := id hit
  unfold pyNext
  refine wpAny_bind (wpAny_attempt (wpAny_callSpecial?_slot (name := Str.ofString "__next__") hit.typeIs slot_setit_next
    (wpAny_call_entry slot_setit_next hit.typeIs entry_setit_next ?_ (args_setit_next _))))
  unfold Builtin.«set_iterator.__next__» slotArgs
  simp only [List.isEmpty_nil, Bool.not_true, Bool.false_eq_true, ↓reduceIte, bind_assoc, List.length_nil, bne_self_eq_false]
  refine wpAny_bind (wpAny_pure ?_)
  refine wpAny_bind (wpAny_fieldsOf hoI hd ?_)
  dsimp only
  refine wpAny_bind (wpAny_setEntries_of ho rfl hf ?_)
  rw [if_neg (by simp)]
  refine wpAny_bind ?_
  rw [Int.toNat_natCast, Int.toNat_natCast, Int.toNat_natCast]
  refine setNext_at ho he hs hslot (by omega) fun slot' hslot' => ?_
  rw [hx]
  dsimp only [Option.map]
  refine wpAny_bind (wpAny_setField hoI hd (by simp) ?_)
  have ho1 := Heap.get?_update_self (Obj.mapFields (·.setIfInBounds 0 (rawInt (slot' : Int)))) hoI (Obj.isFreed_of_fields (Obj.data_mapFields hd _))
  refine wpAny_bind (wpAny_setField ho1 (Obj.data_mapFields hd _) (by simp) ?_)
  refine wpAny_pure ⟨_, rfl, wpAny_pure (hQ slot' _ hslot' ⟨_, Heap.get?_update_self _ ho1 (Obj.isFreed_of_fields (Obj.data_mapFields (Obj.data_mapFields hd _) _)), ?_, ?_⟩ ((Heap.SameBut.update ..).trans (Heap.SameBut.update ..)))⟩
  · rw [Obj.cls_mapFields, Obj.cls_mapFields]; exact hc
  · rw [Obj.data_mapFields (Obj.data_mapFields hd _)]; simp [rawInt]
theorem next_end {I S : Addr} {es : Array (Int × Value)} {slot i ep : Nat} {ks : List Nat} {Q : Option Value → Shared → Prop} (hh : A.handled = none) (hit : IsSetIter s.heap I S slot i es.size ep) (ho : s.heap.get? S = some (setO es ep ks (ledOf w))) (he : Ents es ks) (hs : ks ∈ subs)
    (hslot : w.params.followText "set-order" = false → slot = slotAt ks i) (hi : i = es.size)
    (hQ : ∀ h', Heap.ExtBut I s.heap h' → Q none { s with heap := h' }) :
    wpAny (model prog w) A (pyNext (.ref I)) Q E s := by
  have hsz := he.size
  have hf : (tab ks (ledOf w)).fits es.size = true := by rw [hsz]; exact tab_fits ks hs _
  have hx : (ordOf w S ep es)[i]? = none := Array.getElem?_eq_none (by rw [ord_size]; omega)
  obtain ⟨o, hoI, hc, hd⟩ := id hit
  unfold pyNext
  refine wpAny_bind (wpAny_attempt (wpAny_callSpecial?_slot (name := Str.ofString "__next__") hit.typeIs slot_setit_next
    (wpAny_call_entry slot_setit_next hit.typeIs entry_setit_next ?_ (args_setit_next _))))
  unfold Builtin.«set_iterator.__next__» slotArgs
  simp only [List.isEmpty_nil, Bool.not_true, Bool.false_eq_true, ↓reduceIte, bind_assoc, List.length_nil, bne_self_eq_false]
  refine wpAny_bind (wpAny_pure ?_)
  refine wpAny_bind (wpAny_fieldsOf hoI hd ?_)
  dsimp only
  refine wpAny_bind (wpAny_setEntries_of ho rfl hf ?_)
  rw [if_neg (by simp)]
  refine wpAny_bind ?_
  rw [Int.toNat_natCast, Int.toNat_natCast, Int.toNat_natCast]
  refine setNext_at ho he hs hslot (by omega) fun slot' hslot' => ?_
  rw [hx]
  dsimp only [Option.map]
  refine wpAny_bind (wpAny_setField hoI hd (by simp) ?_)
  show wpAny _ _ (newExc (.type "StopIteration") [] >>= _) _ _ _
  refine wpAny_bind ?_
  simp only [newExc, newTuple]
  refine wpAny_bind (wpAny_newObj_type ?_ (by size_fits))
  refine wpAny_bind (m := firstArgMember _ _) (wpAny_of_eq (a := Value.none) (by first | rfl | (simp only [firstArgMember]; rfl)) ?_)
  refine wpAny_newObj_type ?_ (by size_fits)
  simp only [raiseNew]
  refine wpAny_bind (wpAny_handled ?_)
  rw [show A.in1.handled = none from hh]
  refine wpAny_bind (wpAny_pure (wpAny_throw ?_))
  refine wpAny_bind (wpAny_isInstance (T := "StopIteration") (b := true) ⟨_, Heap.get?_push_size _ rfl, rfl⟩ isSubtype_stop ?_)
  exact wpAny_pure (hQ _ (((Heap.SameBut.update ..).extBut.push _).push _))
end
end

section
open PySem PySem.W PyProof.Rows PySem.Spec PySem.Calls
set_option Elab.async false
set_option maxRecDepth 100000
set_option maxHeartbeats 4000000
set_option linter.all false
section
variable {prog : Program} {w : World} {A : Around} {E : Value → Shared → Prop} {s : Shared}
noncomputable abbrev SetW (w : World) (I S : Addr) (es : Array (Int × Value)) (ep : Nat) (ks : List Nat) (i : Nat) (h : Heap) : Prop :=
  ∃ slot, IsSetIter h I S slot i es.size ep ∧ h.get? S = some (setO es ep ks (ledOf w)) ∧ (w.params.followText "set-order" = false → slot = slotAt ks i)
theorem set_walks (hh : A.handled = none) (I S : Addr) (hne : S ≠ I) {es : Array (Int × Value)} {ep : Nat} {ks : List Nat} (he : Ents es ks) (hs : ks ∈ subs) :
    Walks prog w A I [I, S] [I] es.size (fun i v => ∃ e, (ordOf w S ep es)[i]? = some e ∧ v = e.2) (SetW w I S es ep ks) where
  sub := fun b hb => by simp at hb; simp [hb]
  frame := fun _ _ _ ⟨slot, st1, st2, st3⟩ hk => ⟨slot, st1.sameAt fun o e => hk I (by simp) o e, hk S (by simp) _ st2, st3⟩
  item := fun i s Q E hi ⟨slot, st1, st2, st3⟩ hQ => by
    have hi' : i < (ordOf w S ep es).size := by rw [ord_size]; exact hi
    refine next_item st1 st2 he hs st3 (Array.getElem?_eq_getElem hi') fun slot' h' hsl hit' hs' => ?_
    exact hQ _ h' s.toks ⟨_, Array.getElem?_eq_getElem hi', rfl⟩ ⟨slot', hit', hs'.extBut S _ hne st2, hsl⟩ fun b o hb e => hs'.extBut b o (fun h => hb (by simp [h])) e
  done := fun s Q E ⟨slot, st1, st2, st3⟩ hQ => next_end hh st1 st2 he hs st3 rfl fun h' he' => hQ h' s.toks fun b o hb e => he' b o (fun h => hb (by simp [h])) e
  self := fun _ _ _ _ ⟨_, st1, _⟩ hQ => iter_setit st1 hQ
theorem split_set_len : splitId "set.__len__" = some ("set", "__len__") := by decide +kernel
theorem hint_set {S : Addr} {Q : Bool → Shared → Prop} (hT : s.TypeIs (.ref S) "set") (h : Q false s) : wpAny (model prog w) A (Builtin.List.listLengthHint (.ref S)) Q E s := by
  unfold Builtin.List.listLengthHint
  refine wpAny_bind (wpAny_specialOf hT F.slot_set_len.lookup ?_)
  dsimp -zeta -zetaHave only
  rw [split_set_len]
  dsimp -zeta -zetaHave only
  refine wpAny_bind (wpAny_isInstance hT sub_set_self ?_)
  rw [if_neg (by decide)]
  dsimp -zeta -zetaHave only
  split
  · refine wpAny_bind (wpAny_typeOf hT ?_)
    exact wpAny_pure h
  · rename_i hn
    exact (hn (by decide +kernel)).elim
theorem collect_set {S : Addr} {es : Array (Int × Value)} {ep : Nat} {ks : List Nat} {Q : List Value → Shared → Prop} (hh : A.handled = none) (ho : s.heap.get? S = some (setO es ep ks (ledOf w))) (he : Ents es ks) (hs : ks ∈ subs)
    (hQ : ∀ h' tk acc, s.heap.objs.size < h'.objs.size → (∀ b o, b < s.heap.objs.size → s.heap.get? b = some o → h'.get? b = some o) → ItemsOf (fun i v => ∃ e, (ordOf w S ep es)[i]? = some e ∧ v = e.2) acc es.size → Q acc.toList { s with heap := h', toks := tk }) :
    wpAny (model prog w) A (collect (.ref S)) Q E s := by
  have hsz := he.size
  have h4 := subs_small ks hs
  have hlS : S < s.heap.objs.size := Heap.lt_size ho
  unfold collect
  refine wpAny_bind (wpAny_runValue (codeAny_builtin F.entry_proto_collect ?_))
  rw [Around.under_plainId F.plain_proto_collect _]
  show wpAny _ A.in1 (newList [] >>= fun l => again (.builtin "list.__iadd__" ⟨[l, .ref S], []⟩)) _ _ s
  refine wpAny_bind (wpAny_newObj_type ?_)
  refine wpAny_pure ⟨plainId_quiet F.plain_list_iadd _, codeAny_builtin F.entry_list_iadd ?_⟩
  rw [Around.under_plainId F.plain_list_iadd _]
  show wpAny _ A.in1 (Builtin.List.listExtendWith (.ref s.heap.objs.size) (.ref S) (.ref s.heap.objs.size)) _ _ _
  generalize hH1 : s.heap.push { cls := .type "list", data := .seq ([] : List Value).toArray } = H1
  have hz1 : H1.objs.size = s.heap.objs.size + 1 := by rw [← hH1, size_push']
  have hS₁ : H1.get? s.heap.objs.size = some { cls := .type "list", data := .seq ([] : List Value).toArray } := by rw [← hH1]; exact Heap.get?_push_size _ rfl
  have ho1 : H1.get? S = some (setO es ep ks (ledOf w)) := by rw [← hH1]; exact Heap.get?_push_of_some _ ho
  have old1 : ∀ b o, s.heap.get? b = some o → H1.get? b = some o := fun b o e => by rw [← hH1]; exact Heap.get?_push_of_some _ e
  unfold Builtin.List.listExtendWith
  refine wpAny_bind (wpAny_typeOf (T := "set") ⟨_, ho1, rfl⟩ ?_)
  have h1 : Builtin.List.listSameRef (.ref s.heap.objs.size) (.ref S) = false := by
    show (s.heap.objs.size == S) = false
    exact beq_false_of_ne (Nat.ne_of_gt hlS)
  have h2 : (Value.type "set" == Value.type "list") = false := by decide
  have h3 : (Value.type "set" == Value.type "tuple") = false := by decide
  simp only [h1, h2, h3, Bool.or_false, Bool.false_eq_true, if_false]
  refine wpAny_bind (iter_set ho1 he hs ?_)
  dsimp only
  generalize hH2 : H1.push { cls := .type "set_iterator", data := .fields #[.int ((0 : Nat) : Int) 0, .int ((0 : Nat) : Int) 0, .ref S, .int (es.size : Int) 0, .int (ep : Int) 0] } = H2
  have hI2 : IsSetIter H2 H1.objs.size S 0 0 es.size ep := by rw [← hH2]; exact ⟨_, Heap.get?_push_size _ rfl, rfl, rfl⟩
  have old2 : ∀ b o, H1.get? b = some o → H2.get? b = some o := fun b o e => by rw [← hH2]; exact Heap.get?_push_of_some _ e
  have ho2 := old2 _ _ ho1
  have hS₂ := old2 _ _ hS₁
  refine wpAny_bind (wpAny_holding ?_)
  refine hint_set ⟨_, ho2, rfl⟩ ?_
  rw [Bool.false_or]
  split
  rotate_left
  · rename_i hn
    exact (hn (by decide +kernel)).elim
  refine wpAny_bind (wpAny_rule ?_)
  refine wpAny_bind ?_
  show wpAny _ A.in1 (updateSeq s.heap.objs.size (·.push .none) >>= fun _ => updateSeq s.heap.objs.size (·.pop)) _ _ _
  refine wpAny_bind (wpAny_updateSeq hS₂ rfl ?_)
  have hS₃ := Heap.get?_update_self (Obj.mapSeq (·.push Value.none)) hS₂ rfl
  refine wpAny_updateSeq hS₃ rfl ?_
  have hS₄ := Heap.get?_update_self (Obj.mapSeq (·.pop)) hS₃ rfl
  have old3 : ∀ b o, b ≠ s.heap.objs.size → H2.get? b = some o → ((H2.update s.heap.objs.size (Obj.mapSeq (·.push Value.none))).update s.heap.objs.size (Obj.mapSeq (·.pop))).get? b = some o :=
    fun b o hb e => (Heap.get?_update_other _ _ (Ne.symm hb)).trans ((Heap.get?_update_other _ _ (Ne.symm hb)).trans e)
  have hne : S ≠ H1.objs.size := by rw [hz1]; exact Nat.ne_of_lt (Nat.lt_succ_of_lt hlS)
  have hnI : H1.objs.size ≠ s.heap.objs.size := by rw [hz1]; exact Nat.succ_ne_self _
  have hSf : s.heap.objs.size ∉ [H1.objs.size, S] := by
    simp only [List.mem_cons, List.not_mem_nil, or_false, not_or]
    exact ⟨Ne.symm hnI, Nat.ne_of_gt hlS⟩
  have hh2 : A.in1.handled = none := by simp [hh]
  refine wpAny_pure ⟨plainId_quiet F.plain_extend_loop _, codeAny_extend_loopS (set_walks (A := A.in1) hh2 H1.objs.size S hne he hs).toS (by rw [sizeLine_eq]; omega) s.heap.objs.size hSf _ es.size 0 _ _ _ rfl (Nat.zero_le _)
    ⟨0, hI2.sameAt fun o e => old3 _ o hnI e, old3 _ _ (Nat.ne_of_lt hlS) ho2, fun _ => rfl⟩ hS₄ (ItemsOf.nil _) fun s' acc' c' hm hS' hacc => ?_⟩
  show wpAny _ A (load s.heap.objs.size >>= _) _ _ s'
  refine wpAny_bind (wpAny_load hS' ?_)
  obtain ⟨h', g', d', tk', os'⟩ := s'
  have eg : g' = s.gens := hm.gens
  have ed : d' = s.drawn := hm.drawn
  have eo : os' = s.os := hm.os
  subst eg; subst ed; subst eo
  refine wpAny_pure (hQ h' tk' acc' (Heap.lt_size hS') (fun b o hb e => ?_) hacc)
  have hb1 : b ≠ s.heap.objs.size := Nat.ne_of_lt hb
  have hb2 : b ≠ H1.objs.size := by rw [hz1]; exact Nat.ne_of_lt (Nat.lt_succ_of_lt hb)
  exact hm.heap b o (by simp only [List.mem_cons, List.not_mem_nil, or_false, not_or]; exact ⟨hb1, hb2⟩) (old3 b o hb1 (old2 b o (old1 b o e)))
end
end

section
open PySem PySem.W PyProof.Rows PySem.Spec PySem.Calls
set_option Elab.async false
set_option maxRecDepth 100000
set_option maxHeartbeats 4000000
set_option linter.all false
theorem ents_fst : ∀ {l : List (Int × Value)} {ks : List Nat}, All2 EntRel l ks → l.map (·.1) = ks.map fun k : Nat => (k : Int)
  | _, _, .nil => rfl
  | _, _, .cons hr r => by rw [List.map_cons, List.map_cons, ents_fst r, hr.1]
theorem ints_of : ∀ (l : List (Int × Value)), (∀ e ∈ l, ∃ t, e.2 = .int e.1 t) → IntsAre (l.map (·.2)) (l.map (·.1))
  | [], _ => .nil
  | e :: l, h => by
    obtain ⟨t, ht⟩ := h e (.head _)
    rw [List.map_cons, List.map_cons, ht]
    exact .cons _ _ (ints_of l fun e he => h e (.tail _ he))
theorem lt_of_le_nodup : ∀ {l : List Int}, l.Pairwise (· ≤ ·) → l.Nodup → l.Pairwise (· < ·)
  | [], _, _ => .nil
  | x :: l, h, hn => by
    have h' := List.pairwise_cons.mp h
    have hn' := List.nodup_cons.mp hn
    refine List.pairwise_cons.mpr ⟨fun y hy => ?_, lt_of_le_nodup h'.2 hn'.2⟩
    have h1 := h'.1 y hy
    have h2 : x ≠ y := fun e => hn'.1 (e ▸ hy)
    omega
section
variable {prog : Program} {w : World} {A : Around} {E : Value → Shared → Prop} {s : Shared}
theorem items_ints {S : Addr} {es : Array (Int × Value)} {ep : Nat} {ks : List Nat} {acc : Array Value} (he : Ents es ks) (h : ItemsOf (fun i v => ∃ e, (ordOf w S ep es)[i]? = some e ∧ v = e.2) acc es.size) :
    ∃ ns, IntsAre acc.toList ns ∧ ns.Perm (ks.map fun k : Nat => (k : Int)) := by
  have e1 : acc.toList = (ordOf w S ep es).toList.map (·.2) := by
    refine List.ext_getElem? fun i => ?_
    rw [Array.getElem?_toList, List.getElem?_map, Array.getElem?_toList]
    rcases Nat.lt_or_ge i acc.size with hlt | hge
    · obtain ⟨e, h1, h2⟩ := h.2 i _ (Array.getElem?_eq_getElem hlt)
      rw [Array.getElem?_eq_getElem hlt, h1, h2]; rfl
    · have h3 := h.1
      rw [Array.getElem?_eq_none hge, Array.getElem?_eq_none (by rw [ord_size]; omega)]; rfl
  refine ⟨(ordOf w S ep es).toList.map (·.1), ?_, ?_⟩
  · rw [e1]
    refine ints_of _ fun e he' => ?_
    obtain ⟨k, hk, h1, t, h2⟩ := Ents.mem he e ((ord_perm w S ep es).mem_iff.mp he')
    exact ⟨t, by rw [h2, h1]⟩
  · rw [← ents_fst he]
    exact (ord_perm w S ep es).map _
theorem sorted_tab {S : Addr} {es : Array (Int × Value)} {ep : Nat} {ks : List Nat} {Q : Value → Shared → Prop} (hh : A.handled = none) (ho : s.heap.get? S = some (setO es ep ks (ledOf w))) (he : Ents es ks) (hs : ks ∈ subs)
    (h : ∀ h' tk q vs' ns' n, s.heap.objs.size ≤ q → h'.get? q = some (listOf (List.toArray vs') n) → (∀ b o, b < s.heap.objs.size → s.heap.get? b = some o → h'.get? b = some o) → IntsAre vs' ns' → ns'.Pairwise (· < ·) → (∀ x, x ∈ ns' ↔ ∃ k ∈ ks, x = (k : Int)) →
      Q (.ref q) { s with heap := h', toks := tk }) :
    wpAny (model prog w) A (call (.builtin "sorted") [.ref S]) Q E s := by
  refine Calls.call_function_entry kind_sorted plain_sorted entry_sorted (args_sorted1 _) ?_
  unfold Builtin.«sorted»
  refine wpAny_bind (m := checkCount "sorted" 1 1 _) (wpAny_pure ?_)
  refine wpAny_bind (collect_set (by simp [hh]) ho he hs fun h1 tk acc hlt hk hacc => ?_)
  obtain ⟨ns, hI, hp⟩ := items_ints he hacc
  have h4 := subs_small ks hs
  have hsz := he.size
  have hal : acc.toList.length = es.size := by rw [Array.length_toList]; exact hacc.1
  refine wpAny_bind (wpAny_newList ?_)
  have hoL : (h1.push (seqObj "list" acc.toList.toArray 0)).get? h1.objs.size = some (seqObj "list" acc.toList.toArray 0) := Heap.get?_push_size _ rfl
  show wpAny _ _ _ _ _ { s with heap := h1.push (seqObj "list" acc.toList.toArray 0), toks := tk }
  refine wpAny_bind (wpAny_holding (wpAny_call_entry slot_list_sort ⟨_, hoL, rfl⟩ entry_list_sort (list_sort_tree hoL hI (by omega) fun out ns' a1 a2 a3 => ⟨_, rfl, ?_⟩) (args_list_sort _)))
  obtain ⟨e, hq⟩ := sortedHeap_at (out := out) hoL
  have hnd : (ks.map fun k : Nat => (k : Int)).Nodup := by
    refine List.Pairwise.map _ (fun a b hab => ?_) (subs_up ks hs)
    omega
  refine wpAny_pure ⟨_, rfl, h _ tk h1.objs.size out.toList ns' e (Nat.le_of_lt hlt) hq (fun b o hb e => ?_) a1 (lt_of_le_nodup a3 ((a2.trans hp).nodup_iff.mpr hnd)) fun x => ?_⟩
  · have hb1 : b < h1.objs.size := Nat.lt_trans hb hlt
    rw [sortedHeap_old (Nat.ne_of_lt hb1) (by rw [size_push']; exact Nat.lt_succ_of_lt hb1), Heap.get?_push_ne _ _ _ (Nat.ne_of_lt hb1)]
    exact hk b o hb e
  · rw [(a2.trans hp).mem_iff, List.mem_map]
    exact ⟨fun ⟨k, hk, e⟩ => ⟨k, hk, e.symm⟩, fun ⟨k, hk, e⟩ => ⟨k, hk, e.symm⟩⟩
end
noncomputable def HSet (w : World) (o : Obj) (ns : List Int) : Prop := ∃ es ep ks, o = setO es ep ks (ledOf w) ∧ Ents es ks ∧ ks ∈ subs ∧ ∀ x, (∃ k ∈ ks, x = (k : Int)) ↔ x ∈ ns
section
variable {prog : Program} {w : World} {A : Around} {E : Value → Shared → Prop} {s : Shared} {h₀ : Heap} {L : Addr} {m : Str → Option Value} {news : List (Addr × Obj)}
theorem kept_fr {h' : Heap} (F : Fr h₀ L s.heap m) (k : ∀ b o, b < s.heap.objs.size → s.heap.get? b = some o → h'.get? b = some o) : Fr h₀ L h' m := F.kept fun b o e => k b o (Heap.lt_size e) e
theorem kept_news {h' : Heap} (F : Fr h₀ L s.heap m) (N : News h₀ L s.heap news) (k : ∀ b o, b < s.heap.objs.size → s.heap.get? b = some o → h'.get? b = some o) {a : Addr} {o : Obj} (ha : s.heap.objs.size ≤ a) (hoa : h'.get? a = some o) : News h₀ L h' ((a, o) :: news) :=
  N.kept_cons F (fun b o e => k b o (Heap.lt_size e) e) ha hoa
theorem set_new {l : Addr} {vs : List Value} {ns : List Int} {n : Nat} {Q : Value → Shared → Prop} (hh : A.handled = none) (F : Fr h₀ L s.heap m) (N : News h₀ L s.heap news) (hm : (l, listOf vs.toArray n) ∈ news) (hi : IntsAre vs ns) (hb : ∀ x ∈ ns, 2 ≤ x ∧ x ≤ 5)
    (h : ∀ h' tk d o, Fr h₀ L h' m → News h₀ L h' ((d, o) :: news) → HSet w o ns → (∀ p ∈ news, p.1 < d) → Q (.ref d) { s with heap := h', toks := tk }) : wpAny (model prog w) A (call (.type "set") [.ref l]) Q E s := by
  have hlen := hi.length
  have hsz : vs.toArray.size = ns.length := by rw [List.size_toArray]; exact hlen
  have hpos : ∀ i, i < ns.length → ((ns.getD i 0).toNat : Int) = ns.getD i 0 := fun i hlt => by
    have hm : ns.getD i 0 ∈ ns := by rw [List.getD_eq_getElem?_getD, List.getElem?_eq_getElem hlt]; exact List.getElem_mem hlt
    have := hb _ hm
    omega
  refine call_set (items := vs.toArray) (val := fun i => (ns.getD i 0).toNat) hh (N.isList hm) (fun i v hv => ?_) (fun i hlt => ?_) fun h' tk hS hk => ?_
  · rw [List.getElem?_toArray] at hv
    obtain ⟨t, ht⟩ := IntsAre.int_at hi i v hv
    have hlt : i < ns.length := by rw [← hlen]; exact (List.getElem?_eq_some_iff.mp hv).1
    exact ⟨t, by rw [hpos i hlt]; exact ht⟩
  · rw [hsz] at hlt
    have hm : ns.getD i 0 ∈ ns := by rw [List.getD_eq_getElem?_getD, List.getElem?_eq_getElem hlt]; exact List.getElem_mem hlt
    have := hb _ hm
    exact five_of (by omega) (by omega)
  · obtain ⟨es, ep, ho, he, hs⟩ := hS
    refine h h' tk _ _ (kept_fr F hk) (kept_news F N hk (Nat.le_refl _) ho) ⟨es, ep, _, rfl, he, hs, fun x => ?_⟩ (fun p hp => Heap.lt_size (N p hp).1)
    rw [hsz]
    constructor
    · rintro ⟨k, hk', rfl⟩
      obtain ⟨j, hj, e⟩ := (mem_ksAt _ _ _).mp hk'
      rw [← e, hpos j hj, List.getD_eq_getElem?_getD, List.getElem?_eq_getElem hj]
      exact List.getElem_mem hj
    · intro hx
      obtain ⟨j, hj, e⟩ := List.getElem_of_mem hx
      have e2 : ns.getD j 0 = x := by rw [List.getD_eq_getElem?_getD, List.getElem?_eq_getElem hj]; exact e
      refine ⟨(ns.getD j 0).toNat, (mem_ksAt _ _ _).mpr ⟨j, hj, rfl⟩, ?_⟩
      rw [hpos j hj, e2]
theorem set_sorted {d : Addr} {ns : List Int} {o : Obj} {Q : Value → Shared → Prop} (hh : A.handled = none) (F : Fr h₀ L s.heap m) (N : News h₀ L s.heap news) (hm : (d, o) ∈ news) (ho : HSet w o ns)
    (h : ∀ h' tk q vs' ns' n, Fr h₀ L h' m → News h₀ L h' ((q, listOf (List.toArray vs') n) :: news) → (∀ p ∈ news, p.1 < q) → IntsAre vs' ns' → ns'.Pairwise (· < ·) → (∀ x, x ∈ ns' ↔ x ∈ ns) → Q (.ref q) { s with heap := h', toks := tk }) : wpAny (model prog w) A (call (.builtin "sorted") [.ref d]) Q E s := by
  obtain ⟨es, ep, ks, rfl, he, hs, hx⟩ := ho
  refine sorted_tab hh (N _ hm).1 he hs fun h' tk q vs' ns' n hq hoq hk a1 a2 a3 => ?_
  exact h h' tk q vs' ns' n (kept_fr F hk) (kept_news F N hk hq hoq) (fun p hp => Nat.lt_of_lt_of_le (Heap.lt_size (N p hp).1) hq) a1 a2 fun x => (a3 x).trans (hx x)
end
end

section
open PySem PySem.W PyProof.Rows PySem.Spec PySem.Calls
set_option Elab.async false
set_option maxRecDepth 100000
set_option maxHeartbeats 2000000
set_option linter.all false
theorem fresh_L1 {prog : Program} {w : World} {A : Around} {E : Value → Shared → Prop} {s : Shared} {Q : Value → Shared → Prop} (h : wpAny (model prog w) A (call (.int 0 0) []) Q E s) : wpAny (model prog w) A (call (.int 0 0) []) Q E s := by
  k_with_none
  w_top off
  first | (walk1; fail) | exact h
theorem dec_sym (x : Int) : (decide (x < 256) != !decide (256 ≤ x)) = false := by
  by_cases h : x < 256
  · have h' : ¬ (256 ≤ x) := by omega
    simp [h, h']
  · have h' : 256 ≤ x := by omega
    simp [h, h']
theorem turn_sub {a b c : Addr × Obj} {base own tl : List (Addr × Obj)} : ∀ p ∈ (c :: base) ++ own, p ∈ [a, b] ++ c :: ((base ++ own) ++ tl) := fun p hp => by
  simp only [List.mem_append, List.mem_cons] at hp ⊢
  rcases hp with (h | h) | h
  · exact .inr (.inl h)
  · exact .inr (.inr (.inl (.inl h)))
  · exact .inr (.inr (.inl (.inr h)))
theorem hts_small {t : Tr} (hl : t.leaves = 5) : ∀ x ∈ t.hts, 2 ≤ x ∧ x ≤ 5 := fun x hx => by
  have h1 := (hts_mem t x).mp hx
  have h2 := need_two t (by omega)
  have h3 := dep_small t
  omega
theorem law_holds : PySem.Challenge.rw_xn0010_01.Holds := by
  refine hd.top ?_
  k_go0
  (all_goals try k_fold)
  refine wp_never ?_
  rename Heap.IsList _ _ _ => hLs
  rename IntsAre _ _ => hIs
  rename ¬ _ < _ => h63
  have hrl : recursionLimit = 1000 := rfl
  have hcL9 := cLine_is
  k_with "call ref" => ((with_reducible show wpAny _ _ (call (Value.ref 171) _) _ _ _); k_dflt (refine draw_call _ _ _ _ (by k_asm) (by k_asm) (by k_asm) (by k_asm) (by k_asm) rfl (by decide) (by decide) hLs hIs (by omega) (fun h5 k5 tl q t t1 vt n F5 N5 hq0 hvt hgood hlv => ?_); have hq : (q, ({ cls := .type "tuple", data := .seq #[.str ⟨t.txt.toArray⟩ t1, vt] n } : Obj)) ∈ tl := hq0; have okr : t.txt.length ≤ 100 ∧ chain t.txt = true := ⟨(by have := txt_len t; omega), chain_txt t hgood⟩; have hsz : t.size = 9 := (by have := size_leaves t; omega); have okt : t.Good ∧ t.leaves ≤ 5 := ⟨hgood, (by omega)⟩))
  k_with "call ref" => ((with_reducible show wpAny _ _ (call (Value.ref 183) _) _ _ _); k_dflt (refine tellsN_use (c := (readT _)) (by k_asm) (by k_asm) (by k_asm) (by k_asm) (by k_asm) (by first | exact rfl | assumption) (by first | (exact .mk) | fail "rel") (read_ct _ _ _ _ _) (by first | (exact okr) | fail "ok") (by show callerA.depth + 1 + 2 < recursionLimit; decide) (by show _ + 8 * 2 < cLine; decide) ?_); intro r9 tl9 h9 tk9 F9 N9 hl9 ht9 ho9; (try dsimp only); k_dflt (obtain @⟨ra, sl, dl, wl, dd, vsr, wsr, nn, n1, n2, ow, kvs, D, hra0, hsl, hdl, hwl, hwsm, hiv, hiw, hwd, hwf, hwk⟩ := ho9; have hra : (ra, ({ cls := .type "tuple", data := .seq #[.ref sl, .ref dl, .ref wl] nn } : Obj)) ∈ tl ++ tl9 := hra0; obtain ⟨hv1, hv2, hv3, hv4, hv5, wi, tw, hv6, hv7⟩ := read_facts hgood hlv hiv hiw; subst hv6))
  k_with "call ref" => ((with_reducible show wpAny _ _ (call (Value.ref 190) _) _ _ _); k_dflt (refine tellsN_use (c := treeT) (by k_asm) (by k_asm) (by k_asm) (by k_asm) (by k_asm) (by first | exact rfl | assumption) (by first | (exact .mk (g := ⟨t, 0, [], []⟩) (by k_mem) (by k_mem) hv1 hv2 rfl (by first | (simp only [Int.zero_add]; omega) | (simp; omega))) | fail "rel") (tree_ct _ _ _ _ _) (by first | (exact ⟨hgood, by rw [seg_all]; have := toks_len t 0; omega⟩) | fail "ok") (by show callerA.depth + 1 + (t.size + 1) < recursionLimit; rw [hsz]; decide) (by show _ + 8 * (t.size + 1) < cLine; rw [hsz]; decide) ?_); intro r9 tl9 h9 tk9 F9 N9 hl9 ht9 ho9; (try dsimp only); k_dflt (obtain ⟨htr⟩ := ho9; dsimp only at htr))
  k_with "call ref" => ((with_reducible show wpAny _ _ (call (Value.ref 209) _) _ _ _); k_dflt (refine tellsN_use (c := progsT) (by k_asm) (by k_asm) (by k_asm) (by k_asm) (by k_asm) (by first | exact rfl | assumption) (by first | (exact .mk htr) | fail "rel") (progs_ct _ _ _ _ _) (by first | (exact okt) | fail "ok") (by show callerA.depth + 1 + t.size < recursionLimit; (try rw [hsz]); decide) (by show _ + 8 * t.size < cLine; (try rw [hsz]); decide) ?_); intro r9 tl9 h9 tk9 F9 N9 hl9 ht9 ho9; (try dsimp only); k_dflt (obtain @⟨pa, rs, pn, pt, hpa, hps⟩ := ho9; have hpall := hps.all (fun _ h => h); have hpl := hps.len; have hpl16 := progs_small okt.2; obtain ⟨ri, lv0, pis, lp, hrs, hpi, la, lvs, ln, hlv0, hla, hli⟩ := all2_last hpall (progs_ne t); subst hlv0; subst hrs; have hlp := progs_each t lp (hpi ▸ List.mem_append.mpr (.inr (.head _))); have hll := hli.length))
  k_with "call ref" => ((with_reducible show wpAny _ _ (call (Value.ref 204) _) _ _ _); k_dflt (refine tellsN_use (c := needsT) (by k_asm) (by k_asm) (by k_asm) (by k_asm) (by k_asm) (by first | exact rfl | assumption) (by first | (exact .mk (hvt.mono fun p hp => by k_mem)) | fail "rel") (needs_ct _ _ _ _ _) (by first | (exact okt) | fail "ok") (by show callerA.depth + 1 + t.size < recursionLimit; (try rw [hsz]); decide) (by show _ + 8 * t.size < cLine; (try rw [hsz]); decide) ?_); intro r9 tl9 h9 tk9 F9 N9 hl9 ht9 ho9; (try dsimp only); k_dflt (obtain @⟨na, nt0, nt1, nt2, nn2, hna⟩ := ho9))
  k_with "call ref" => ((with_reducible show wpAny _ _ (call (Value.ref 48) _) _ _ _); refine wpAny_call ?_; k_dflt (refine' code_def ?k1 ?k2 ?k3 ?k4 ?k5 ?kA ?kF ?kK ?k6 ?k7 ?k8 ?k9 ?kB ?_ ?c2 ?c3 ?c4 ?c5; (case kA => exact rfl); (case kF => exact rfl); (case kK => first | exact rfl | assumption); (case k1 => k_asm); (case k2 => k_asm); (case k3 => k_asm); (case k4 => k_asm); (case k5 => k_asm); (case k6 => k_is); (case k7 => k_is); (case k8 => first | decide | (show _ < recursionLimit; decide)); (case k9 => exact BindsTo.of_eq rfl); (case c5 => decide); (case kB => exact locs rfl); (case c2 => exact rfl); (case c3 => exact rfl); (case c4 => exact rfl); k_whole; intro g' L' h' FG' F' N' B' X' T'; (try dsimp only); (try k_fold)))
  k_with "call ref" => ((with_reducible show wpAny _ _ (call (Value.ref 55) _) _ _ _); refine wpAny_call ?_; k_dflt (refine' code_def ?k1 ?k2 ?k3 ?k4 ?k5 ?kA ?kF ?kK ?k6 ?k7 ?k8 ?k9 ?kB ?_ ?c2 ?c3 ?c4 ?c5; (case kA => exact rfl); (case kF => exact rfl); (case kK => first | exact rfl | assumption); (case k1 => k_asm); (case k2 => k_asm); (case k3 => k_asm); (case k4 => k_asm); (case k5 => k_asm); (case k6 => k_is); (case k7 => k_is); (case k8 => first | decide | (show _ < recursionLimit; decide)); (case k9 => exact BindsTo.of_eq rfl); (case c5 => decide); (case kB => exact locs rfl); (case c2 => exact rfl); (case c3 => exact rfl); (case c4 => exact rfl); k_whole; intro g' L' h' FG' F' N' B' X' T'; (try dsimp only); (try k_fold)))
  k_with "call builtin:len" => (k_dflt (refine len_v (by k_asm) (by k_mem) (by omega) ?_; intro t6 k6))
  k_with "compareOp NotEq" => (k_dflt (refine tree_ne (by k_asm) htr (hvt.mono fun p hp => by k_mem) okt.2 (by ke_room) ?_))
  k_with "subscriptTail Name UnaryOp ref int" => (k_dflt (first | refine last_at (vi := ri) (by k_asm) (by k_mem) (by rw [List.length_append] at hpl; omega) ?_ | refine last_at (vi := wi) (by k_asm) (by k_mem) (by omega) ?_))
  k_with "binaryOp Add ref ref" => (k_dflt (refine add2 (by k_asm) (by k_asm) (by k_mem) (by k_mem) (by simp only [List.length_cons, List.length_nil]; omega) ?_; intro h6 F6 N6 l6))
  k_with "eval ListComp" => (k_dflt (refine LCt.ListComp_T (F₀ := by k_asm) (by with_unfolding_all rfl) (by decide) (by rfl) (by decide) (by rfl) ?_))
  k_with "CompSrcT" => (k_dflt (refine LCt.CompSrcT.ledger (by rfl) (by k_asm) (by k_asm) (List.Mem.head _) (by rw [List.size_toArray, List.length_append, List.length_singleton]; unfold sizeLine; omega) ?_; intro g7; refine restT_none _ (.inr ⟨_, .head _, rfl, _, rfl⟩) ?_ ?_ _ 0; (intro i7 v7 I7 oI7 C7 oC7 D7 m7 h7 tk7 E7 hv7 hC7 hx7 F7 N7); (obtain ⟨x7, t7, rfl⟩ := int_of_at hli hv7)))
  k_with "exec For Name Name cons nil" => (k_dflt (rename Fr _ _ _ _ => F0; with_unfolding_all (refine' For_invVF F0 ?k1 ?k2 ?_; (case k1 => exact rfl); (case k2 => exact rfl))))
  k_with "pyIter ref" => (k_dflt (
    rename News _ _ _ ((_, listOf #[] 0) :: _) => N9
    rename ∀ p : Addr × Obj, p ∈ _ → p.1 < _ => lt9
    refine law_loop (wl := wl) (dl := dl) (ow := ow) (od := listOf (List.toArray (wi ++ [Value.int 0 tw])) n2) hgood rfl (by k_asm) N9 lt9 (by k_mem) (hpall.mono fun _ _ h => h.mono fun p hp => by k_mem) (by k_mem) (by k_mem) (five_in (by exact rfl) (by exact rfl) (by exact rfl) (by exact rfl) (by exact rfl)) (fun base i hvs hn tv tn m₁ h8 tk8 own pi pvs pn8 p hx hp hhx hx1 hrun hwl8 hpm hpi8 hhv hbn hon F8 N8 P9 hP9 => ?_) (fun base hvs hn tv tn m₁ h8 tk8 hdl8 hhv F8 N8 => ?_)
    have hpl8 := progs_each t p (List.mem_of_getElem? hp)
    have hps8 := hpi8.length
    have hrg : RunD.Ok ⟨p, D⟩ := run_good hgood hlv hwk (List.mem_of_getElem? hp)
    have hvl8 := hhv.length
    have hvl9 : (t.hts.take i).length ≤ 16 := (by have h1 := (run_all t hgood).length; rw [List.length_take]; omega)))
  k_with "call ref" => ((with_reducible show wpAny _ _ (call (Value.ref 214) _) _ _ _); k_dflt (refine tellsN_use (c := (runT _)) (by k_asm) (by k_asm) (by k_asm) (by k_asm) (by k_asm) (by first | exact rfl | assumption) (by first | (exact .mk (d := { prog := p, D := D }) (by k_mem) (hpi8.append (.cons _ _ .nil)) (by k_mem) hwsm hwd hwf) | fail "rel") (run_ct _ _ _ _ _) (by first | (exact hrg) | fail "ok") (by show callerA.depth + 1 + 4 < recursionLimit; (try rw [hsz]); decide) (by show _ + 8 * 4 < cLine; (try rw [hsz]); decide) ?_); intro r9 tl9 h9 tk9 F9 N9 hl9 ht9 ho9; (try dsimp only); k_dflt (obtain @⟨oa, dd8, ot1, ot2, ot3, ov, on8, hov, hoa⟩ := ho9; dsimp only at hov hoa; rw [hrun] at hov hoa; have e9 : t.val = ov := (List.cons.inj hov).1; subst e9; dsimp only at hoa))
  k_with "call builtin:list.append" => (k_dflt (refine app_at (pre := [_, _]) (post := (base ++ own) ++ tl9) (by k_asm) (by k_asm) (fun p hp => by rcases List.mem_cons.mp hp with rfl | hp; exact Nat.ne_of_gt (l6 _ (.tail _ (.head _))); rw [List.mem_singleton.mp hp]; exact Nat.ne_of_gt (by show _ < _; omega)) (fun p hp => by rcases List.mem_append.mp hp with hp | hp; (rcases List.mem_append.mp hp with hp | hp; exact hbn p hp; exact hon p hp); exact Nat.ne_of_gt (hl9 _ (.tail _ (.tail _ (.head _))) p hp)) (by omega) ?_; intro h6 F6 N6))
  k_with "call type:set" => (k_dflt (refine set_new rfl (by k_asm) (by k_asm) (List.Mem.head _) hhv (hts_small hlv) ?_; intro h6 tk6 d6 o6 F6 N6 ho6 l6))
  k_with "call builtin:sorted" => (k_dflt (refine set_sorted rfl (by k_asm) (by k_asm) (List.Mem.head _) ho6 ?_; intro h7 tk7 q7 vs7 ns7 n7 F7 N7 l7 hi7 hp7 hn7))
  k_with "call builtin:max" => (k_dflt (refine kso_max (l := dl) (vs := wi ++ [Value.int 0 tw]) (ns := (t.toks 0).map (·.2)) (by k_asm) (by k_asm) (kso_isList (n := n2) (by k_asm) (by k_mem) rfl) (by rw [← seg_all]; exact hv2) (by rw [List.length_map]; have := toks_len t 0; omega) rfl ?_; intro h8 M8 tk8 k8 F8 N8 hM1 hM2; have hM : M8 = t.dep := max_depth hM1 hM2; subst hM))
  k_with "call type:list" => (k_dflt (
    rename IsRange _ _ _ _ _ _ _ _ => rg9
    have hnd9 := need_le t
    have hds9 := dep_small t
    refine kll_range rfl (by k_asm) (by k_asm) rg9 (small_one (by omega) (by omega) (by omega) (by omega)) (rangeSize_nat _ _) (by omega) ?_
    intro D9 us9 c9 h9 tk9 F9 N9 l9 hi9
    have e9 : ns7 = rangeKs t.need (t.dep + 2 - t.need).toNat := rising_range _ _ _ hp7 (fun x => by rw [hn7, hts_mem]; omega)
    subst e9))
  k_with "compareOp Eq ref ref" => (k_dflt (refine ke_eq_ints (kso_isList (n := n7) (by k_asm) (by k_mem) rfl) (kso_isList (n := c9) (by k_asm) (by k_mem) rfl) hi7 hi9 (by ke_room) ?_; rw [decide_eq_true rfl]))
  k_steps
  all_goals try first | exact absurd rfl (by assumption) | exact dec_sym _ | k_asm
  all_goals try (refine hP9 _ _ ?_; (show AnyPost _ _ _ _ _ _ Flow.next _); exact law_turn (tx := ot1) (hn := hn) (by k_asm) (by k_asm) turn_sub hhv hhx (by exact rfl) (by exact rfl) (by exact rfl) (by exact rfl) (by exact rfl))
end

end Mine
theorem PySem.Challenge.cw_xn0010_01_holds : PySem.Challenge.rw_xn0010_01.Holds := by
  exact Mine.law_holds
