import PyProof.Rows.All
import Wide.All
import OpenK.AllK
import Wide.FinOn
import PySem.Challenge.RW_xr0006_02
set_option Elab.async false
set_option genInjectivity false
set_option genSizeOf false
set_option maxRecDepth 100000
set_option linter.unusedVariables false
set_option linter.unusedSimpArgs false
namespace Mine
noncomputable def zz0:Nat:=0x100001
noncomputable def zz1:Nat:=0x601806
noncomputable def zz2:Nat:=0x80200802
noncomputable def zz3:Nat:=0x2c0b0000b0000b
noncomputable def zz4:Nat:=zz0+0x100300c03000000040100401<<<40
noncomputable def zz5:Nat:=0x90240900009
noncomputable def zz6:Nat:=7176+zz2<<<20
noncomputable def zz7:Nat:=0x3000030000300c030000000803
noncomputable def zz8:Nat:=0x802008000080000c02+zz4<<<90
noncomputable def zz9:Nat:=0x200802
noncomputable def zz10:Nat:=0xbc2f0002f<<<10
noncomputable def zz11:Nat:=0x1c0700007
noncomputable def zz12:Nat:=0x1e0781a0781e0001e<<<10
noncomputable def zz13:Nat:=0x18090240902406000000240102409018060000a0280a0000a0000000009000090000900000018000000a0280a0280600000024010240901806+zz5<<<470+0x2000020000200802018070140400000000000100000000010000000001006<<<520
noncomputable def zz14:Nat:=0x581600016
noncomputable def zz15:Nat:=0x10000000000004000040000000004
noncomputable def zz16:Nat:=0x40040001000000000000400004
noncomputable def zz17:Nat:=0x8000080000802008000240002400024090240601807
noncomputable def zz18:Nat:=0x18000000000006<<<10
noncomputable def zz19:Nat:=0x2108400084000840008421
noncomputable def zz20:Nat:=0x2c0b0280b02c0002c<<<10
noncomputable def zz21:Nat:=0xc83200032<<<10
noncomputable def zz22:Nat:=0x120001200012
noncomputable def zz23:Nat:=0x19c6719c67<<<20
noncomputable def zz24:Nat:=0x200800008020<<<10+zz6<<<60+32<<<120+zz7<<<130+0x1e0001f07c1f0001f<<<260
noncomputable def zz25:Nat:=zz8+zz8<<<250
noncomputable def zz26:Nat:=0x40101806010040100000004+zz0<<<100+0x1809024090240600000024010240901806000060180000001<<<140+zz5<<<350+0x2000020000200802018070140400000000000100000000010000000001006<<<400
noncomputable def zz27:Nat:=0x1705c1705c1705c170001700017<<<10+zz1<<<140+0xa0280a02800028000280a0280a<<<170+zz1<<<300+0x601404000000000001000000000100000000010060000000001<<<330
noncomputable def zz28:Nat:=0x340d034010340d0000d0000d
noncomputable def zz29:Nat:=0x2e0b8000b82e<<<10+zz6<<<60+46<<<120+zz7<<<130+0x2c0002d0b42d0002d<<<260
noncomputable def zz30:Nat:=0x40101806010040100000004+zz0<<<100+0x24010240901806000060180000001<<<140+zz3<<<290+0x6018000000b02c01<<<350+zz13<<<420
noncomputable def zz31:Nat:=zz0+0x701c0701c0500004010000000001000000000000403800000000380e000000000000c000000300401<<<40+zz11<<<380+0x10380e0380000001000100440003400034000340d0340b000000000f0000d0000d0000d0340d02c0c0340d03400034000340d000000000f0000d0000d0000d0340b000000000f03c00028090000902007<<<420
noncomputable def zz32:Nat:=0x401001404000000000400000000040000000004040000000004010000100400004010
noncomputable def zz33:Nat:=0x1806000000000000840080200802008020
noncomputable def zz34:Nat:=0x1705c1705c1705c170001700017<<<10+zz1<<<140+0xa0280a02800028000280a0280a<<<170+zz1<<<300+0x1404000000000001000000000100000000010060000000001<<<330
noncomputable def zz35:Nat:=0x34050040d
noncomputable def zz36:Nat:=0x34000040d0340d
noncomputable def zz37:Nat:=0x44000041104411
noncomputable def zz38:Nat:=zz0+0x1004010040100401<<<40
noncomputable def zz39:Nat:=0x24010240901806+zz3<<<90+0x2800028000280000006000000000001806000000540b02c01<<<150+0x5816<<<410+zz14<<<440+1046<<<480+zz14<<<510+0x5c16<<<550+zz27<<<570+0x601800000000180600006018<<<1170+zz15<<<1270+0x180601806000010190641906419<<<1410+zz16<<<1520+0x601c<<<1630+zz1<<<1660+0x1a0001a0001a0681a<<<1690+zz17<<<1760
noncomputable def zz40:Nat:=0x21084000840008421<<<10
noncomputable def zz41:Nat:=zz17+13<<<200
noncomputable def zz42:Nat:=0x2409000090000900009024
noncomputable def zz43:Nat:=0x8020080000800000000000700c01+zz4<<<130
noncomputable def zz44:Nat:=0x3c000040f03c0f
noncomputable def zz45:Nat:=0xf43d0003d0003d<<<10
noncomputable def zz46:Nat:=1+zz9<<<30
noncomputable def zz47:Nat:=0x39000390e439
noncomputable def zz48:Nat:=0x407010070000701c0700802000000000f
noncomputable def zz49:Nat:=zz31+0x1004010000e<<<1100
noncomputable def zz50:Nat:=0x20080000001
noncomputable def zz51:Nat:=0x6018000000000006018000200801c0701806<<<30+zz1<<<190+1025<<<220+zz0<<<240+11<<<280+zz3<<<300+0x6018000000b02c01<<<360+zz13<<<430+0x300c0140400000000040000000004000000000403000000000300c0000c030000300c<<<1260+zz26<<<1550+0x380e0140400000000040000000004000000000403800000000380e0000e038000380e<<<2260
noncomputable def zz52:Nat:=zz39+0x1d04c050041307413<<<1960+zz18<<<2030+0x1e0781e0001a000010681a<<<2100+zz12<<<2190+0x130000104c1304c1e<<<2270+zz40<<<2340+19<<<2420+zz19<<<2430+19<<<2520+zz19<<<2530+0x8c2108413<<<2620+zz24<<<2660+zz12<<<2990+37<<<3070+zz33<<<3080
noncomputable def zz53:Nat:=43+zz18<<<10+0x2c0b02c00028000010a028<<<80+zz20<<<170+44<<<250
noncomputable def zz54:Nat:=zz25+zz25<<<500
noncomputable def zz55:Nat:=zz2+0x8000000000005000040100000000010000000000004<<<40
noncomputable def zz56:Nat:=0x1404000000000001000000000100000000010020000000001+0x701c0701c05000040100000000010000000000004044000000004411<<<250+zz11<<<490+0x44110440000002000130440003400034000340d0340b00000000120000d0000d0000d0340d02c0c0340d03400034000340d00000000120000d0000d0000d0340b000000001204800028090000902007<<<530
noncomputable def zz57:Nat:=0x40000000004000000000407
noncomputable def zz58:Nat:=zz26+zz32<<<710
noncomputable def zz59:Nat:=0x6018000000000002+zz34<<<70
noncomputable def zz60:Nat:=0x802008000080000c02+zz0<<<90+0x60040100401<<<130
noncomputable def zz61:Nat:=zz49+zz55<<<1200
noncomputable def zz62:Nat:=0x5014050000001000000000100001000000040000000000010000000000005000040100000000010000000000004
noncomputable def zz63:Nat:=0x402008000000000007
noncomputable def zz64:Nat:=0x130001304c13+zz22<<<50+zz28<<<150
noncomputable def zz65:Nat:=0xf04400000110440004411<<<10+0x3c11<<<150
noncomputable def zz66:Nat:=0x1304c13+zz22<<<40+zz28<<<140
noncomputable def zz67:Nat:=0x3000000000000c000000000c000000000c020040000001
noncomputable def zz68:Nat:=0x2f0002f0bc0d+zz10<<<50
noncomputable def zz69:Nat:=0xd4350003500035000350d411
noncomputable def zz70:Nat:=0x18000ec1705c17000170001700006018000000000002
noncomputable def zz71:Nat:=17+zz19<<<10
noncomputable def zz72:Nat:=0x24090000900009024<<<10
noncomputable def zz73:Nat:=19+zz42<<<10
noncomputable def zz74:Nat:=zz4+zz54<<<160
noncomputable def zz75:Nat:=0x10000100000000010000000001
noncomputable def zz76:Nat:=7+zz9<<<50+1025<<<80+zz0<<<100
noncomputable def zz77:Nat:=0x20000000001+zz56<<<50
noncomputable def zz78:Nat:=0x14000040501405
noncomputable def zz79:Nat:=0x1806018060000600006+zz1<<<80
noncomputable def zz80:Nat:=0x4000040000000004000000000407
noncomputable def zz81:Nat:=0x10000040401004
noncomputable def zz82:Nat:=zz10+47<<<50
noncomputable def zz83:Nat:=0x29000290a429
noncomputable def zz84:Nat:=0x20080701800000000000600000000060000000006+0x3006008000180002c0b01c0600000000060000000006000000000602c000000002c0b0000b02c0002c0b<<<220+zz9<<<560+0x40200800008020080000000000070000000007<<<590
noncomputable def zz85:Nat:=0x1504411000110440004411<<<10
noncomputable def zz86:Nat:=0x3d0f4000f4000f43d
noncomputable def zz87:Nat:=0x3d0f40d+zz45<<<30
noncomputable def zz88:Nat:=0x40100001000010040
noncomputable def zz89:Nat:=0x100400004000040000401000f
noncomputable def zz90:Nat:=0x18001181705c17000170001700006018000000000002
noncomputable def zz91:Nat:=0x100400004000040000401000d
noncomputable def zz92:Nat:=0x8010140100001+zz2<<<80+zz1<<<120+0x601006<<<160+zz2<<<220+0x407010070000701c07<<<260+0x20000000802<<<390
noncomputable def zz93:Nat:=9225+zz5<<<30
noncomputable def zz94:Nat:=zz1+0x70000000009000000000101c0401c0001c0701c02008000000601006<<<40+2<<<340+zz48<<<350+0x4402<<<530
noncomputable def zz95:Nat:=0x100406018040100400000010000481201404000000000400000000040000000004048000000004812000120480004812+zz0<<<390+0x60180000001<<<430
noncomputable def zz96:Nat:=0x310bc2f+zz29<<<30+zz20<<<360+44<<<440
noncomputable def zz97:Nat:=0x340c832+zz29<<<30
noncomputable def zz98:Nat:=0x350d4000d4000d435<<<10
noncomputable def zz99:Nat:=0x40101806010040100000004+zz0<<<100+0x24010240901806000060180000001<<<140+zz3<<<290+0x9004090240601806018000000b02c01<<<350+zz3<<<510+0x6018000000b02c01<<<570+zz13<<<640
noncomputable def zz100:Nat:=0x100406018040100400000010000481201404000000000400000000040000000004048000000004812000120480004812+zz0<<<390+0x24010240901806000060180000001<<<430+zz3<<<580+0x6018000000b02c01<<<640
noncomputable def zz101:Nat:=29+zz18<<<10+0x1e0781e0001a000010681a<<<80+zz12<<<170+30<<<250
noncomputable def zz102:Nat:=0x2308421+zz24<<<30+zz12<<<360+30<<<440
noncomputable def zz103:Nat:=0x2609024+zz24<<<30
noncomputable def zz104:Nat:=0x310c4000c431<<<10+zz6<<<60+49<<<120+zz7<<<130+0x2f000300c03000030<<<260+zz10<<<330
noncomputable def zz105:Nat:=zz30+zz32<<<1250
noncomputable def zz106:Nat:=0x6018000000000006018000200801c0701806<<<30+zz1<<<190+1025<<<220+zz0<<<240+11<<<280+zz3<<<300+0x6018000000b02c01<<<360+zz13<<<430+0x300c0140400000000040000000004000000000403000000000300c0000c030000300c<<<1260+zz30<<<1550+0x380e0140400000000040000000004000000000403800000000380e0000e038000380e<<<2800
noncomputable def zz107:Nat:=0x12c4b0004b0004b<<<10
noncomputable def zz108:Nat:=zz0+0x701c0701c0500004010000000001000000000000403800000000380e000000000000c000000300401<<<40+zz11<<<380+0x80000001004010000e00800000010380e0380000001000100440003400034000340d0340b000000000f0000d0000d0000d0340d02c0c0340d03400034000340d000000000f0000d0000d0000d0340b000000000f03c00028090000902007<<<420+zz2<<<1200+0x5000040100000000010000000000004<<<1240
noncomputable def zz109:Nat:=0x10000100000004000000000001+zz46<<<140+0x3c07<<<220
noncomputable def zz110:Nat:=0x67000000000019c67000651942f194650006500065<<<10
noncomputable def zz111:Nat:=0x5c0b82e0b82e0b82e+zz59<<<70
noncomputable def zz112:Nat:=0x1000020080200002
noncomputable def zz113:Nat:=zz51+zz58<<<2550
noncomputable def zz114:Nat:=0x100406018040100400000010000481201404000000000400000000040000000004048000000004812000120480004812+zz0<<<390+0x24010240901806000060180000001<<<430+zz3<<<580+0x9004090240601806018000000b02c01<<<640+zz3<<<800+0x6018000000b02c01<<<860
noncomputable def zz115:Nat:=0x32000320c80d+zz21<<<50
noncomputable def zz116:Nat:=0xd4350003500035000350d40f
noncomputable def zz117:Nat:=0x2709c0009c0009c0009c27
noncomputable def zz118:Nat:=zz95+zz52<<<490+zz27<<<3710+0x982600000000260980009826<<<4310+zz15<<<4410+0x2609826098000102709c2709c27<<<4550+zz16<<<4660+0x982a<<<4770+zz1<<<4800+0x2800028000280a028<<<4830+zz17<<<4900
noncomputable def zz119:Nat:=57+zz18<<<10+0xe83a0e8360e83a0003a0003a0e83a00036000010d836<<<80
noncomputable def zz120:Nat:=0x3c0f0000f03c0003f+zz6<<<70+60<<<130+zz7<<<140+0x3a0003a0003a0003b0ec3b0003b<<<270
noncomputable def zz121:Nat:=zz61+zz77<<<1420
noncomputable def zz122:Nat:=0x110080000001+zz2<<<70
noncomputable def zz123:Nat:=0x110000000001+zz62<<<50+17<<<420+zz2<<<450
noncomputable def zz124:Nat:=0x100000000010000000001
noncomputable def zz125:Nat:=0x380000801+0x200000004000000001c000000003c07<<<90+zz57<<<220+2049<<<360
noncomputable def zz126:Nat:=0x10040000400000000000100001
noncomputable def zz127:Nat:=0xe0380003800038000380e
noncomputable def zz128:Nat:=0x1004000040000400004010
noncomputable def zz129:Nat:=0x1304c0004c0004c0004c13
noncomputable def zz130:Nat:=0x691a4691a4691a4690006900069+zz23<<<110+zz47<<<170
noncomputable def zz131:Nat:=0x19c67+zz47<<<20
noncomputable def zz132:Nat:=0x892248922489224890008900089+zz23<<<110+0x400004010040<<<170
noncomputable def zz133:Nat:=0x40000401004019c67
noncomputable def zz134:Nat:=0xa92a4a92a4a92a4a9000a9000a9+zz23<<<110+0x470004711c47<<<170
noncomputable def zz135:Nat:=0x470004711c4719c67
noncomputable def zz136:Nat:=0xc9324c9324c9324c9000c9000c9+zz23<<<110+0x520005214852<<<170
noncomputable def zz137:Nat:=0x52000521485219c67
noncomputable def zz138:Nat:=0xe93a4e93a4e93a4e9000e9000e9+zz23<<<110+0x590005916459<<<170
noncomputable def zz139:Nat:=0x59000591645919c67
noncomputable def zz140:Nat:=0x1094250942509425090010900109+zz23<<<110+0x600006018060<<<170
noncomputable def zz141:Nat:=0x60000601806019c67
noncomputable def zz142:Nat:=zz9<<<40+0x180a0280a013ff0200200400004040100400004010040080200c03<<<70+zz2<<<300
noncomputable def zz143:Nat:=zz1+0x600001<<<30
noncomputable def zz144:Nat:=0x2008000080000800008020
noncomputable def zz145:Nat:=0x2f0002f0bc0f+zz10<<<50
noncomputable def zz146:Nat:=0x32000320c811+zz21<<<50
noncomputable def zz147:Nat:=0xf03c0003c0003c0003c0f
noncomputable def zz148:Nat:=0x4812+zz22<<<30+18<<<80
noncomputable def zz149:Nat:=0x2008020000000601803+zz11<<<180+0x1806000060000600007<<<220
noncomputable def zz150:Nat:=0xd0340003400034000340d
noncomputable def zz151:Nat:=0xf028000000a028000280a+0x3c0a<<<140
noncomputable def zz152:Nat:=0x2c0002c0002c0c0000c0300c+0x1024090000900009<<<150
noncomputable def zz153:Nat:=0x2b0ac2b0002b0000003c0003c0003c0f03c2c01c0003800038000380e0382c0182c0b0000002a0a82a0a82a0a82a0002a0002a
noncomputable def zz154:Nat:=0x12449124231244900049<<<10
noncomputable def zz155:Nat:=0x124001284a128001280012c4b12c0012c4b<<<10
noncomputable def zz156:Nat:=0x741cc00000000007300000000730000000073
noncomputable def zz157:Nat:=0x10300c0000c0000c
end Mine
section
open PySem PySem.W PySem.W.X
namespace Mine
inductive LT where
  | nil
  | node (a:Addr) (o:Obj) (l r:LT)
noncomputable def LT.get:LT→Nat→Option (Addr × Obj)
  | .nil,_=>none
  | .node a o l r,i=>match Nat.beq i 0 with
    | true=>some (a,o)
    | false=>match Nat.beq (i % 2) 1 with
      | true=>l.get (i / 2)
      | false=>r.get (i / 2 - 1)
noncomputable def LT.set:LT→Nat→Obj→LT
  | .nil,_,_ => .nil
  | .node a o l r,i,x=>match Nat.beq i 0 with
    | true => .node a x l r
    | false=>match Nat.beq (i % 2) 1 with
      | true => .node a o (l.set (i / 2) x) r
      | false => .node a o l (r.set (i / 2 - 1) x)
noncomputable def LT.ins:LT→Nat→Addr→Obj→LT
  | .nil,_,b,x => .node b x .nil .nil
  | .node a o l r,i,b,x=>match Nat.beq i 0 with
    | true => .node b x l r
    | false=>match Nat.beq (i % 2) 1 with
      | true => .node a o (l.ins (i / 2) b x) r
      | false => .node a o l (r.ins (i / 2 - 1) b x)
namespace LT
theorem get_node (a:Addr) (o:Obj) (l r:LT) (i:Nat):(node a o l r).get i=if i=0 then some (a,o) else if i % 2=1 then l.get (i / 2) else r.get (i / 2 - 1):=by
  show (match Nat.beq i 0 with | true=>some (a,o) | false=>match Nat.beq (i % 2) 1 with | true=>l.get (i / 2) | false=>r.get (i / 2 - 1))=_
  rw [BT.beq_eq,BT.beq_eq]
  by_cases h:i=0
  · simp [h]
  · by_cases q:i % 2=1 <;> simp [h,q]
theorem set_node (a:Addr) (o:Obj) (l r:LT) (i:Nat) (x:Obj):(node a o l r).set i x=if i=0 then node a x l r else if i % 2=1 then node a o (l.set (i / 2) x) r else node a o l (r.set (i / 2 - 1) x):=by
  show (match Nat.beq i 0 with | true=>node a x l r | false=>match Nat.beq (i % 2) 1 with | true=>node a o (l.set (i / 2) x) r | false=>node a o l (r.set (i / 2 - 1) x))=_
  rw [BT.beq_eq,BT.beq_eq]
  by_cases h:i=0
  · simp [h]
  · by_cases q:i % 2=1 <;> simp [h,q]
theorem ins_node (a:Addr) (o:Obj) (l r:LT) (i:Nat) (b:Addr) (x:Obj):(node a o l r).ins i b x=if i=0 then node b x l r else if i % 2=1 then node a o (l.ins (i / 2) b x) r else node a o l (r.ins (i / 2 - 1) b x):=by
  show (match Nat.beq i 0 with | true=>node b x l r | false=>match Nat.beq (i % 2) 1 with | true=>node a o (l.ins (i / 2) b x) r | false=>node a o l (r.ins (i / 2 - 1) b x))=_
  rw [BT.beq_eq,BT.beq_eq]
  by_cases h:i=0
  · simp [h]
  · by_cases q:i % 2=1 <;> simp [h,q]
theorem half_odd {i j:Nat} (hi:i % 2=1) (hj:j % 2=1):i / 2=j / 2↔i=j:=by lia
theorem half_even {i j:Nat} (hi0:i≠0) (hj0:j≠0) (hi : ¬ i % 2=1) (hj : ¬ j % 2=1):i / 2 - 1=j / 2 - 1↔i=j:=by lia
theorem get_set (x:Obj) : ∀ (t:LT) (k i:Nat),(t.set k x).get i=if i=k then (t.get k).map (fun p=>(p.1,x)) else t.get i
  | .nil,k,i=>by show LT.nil.get i=_; simp [get]
  | .node a o l r,k,i=>by
    rw [set_node,get_node a o l r k,get_node a o l r i]
    by_cases hk:k=0
    · subst hk
      rw [if_pos rfl,get_node]
      by_cases hi:i=0 <;> simp [hi]
    · rw [if_neg hk]
      by_cases pk:k % 2=1
      · rw [if_pos pk,get_node]
        by_cases hi:i=0
        · have:i≠k:=by lia
          simp [hi,Ne.symm hk]
        · by_cases pi:i % 2=1
          · simp only [hi,pi,hk,pk,if_true,if_false,get_set x l,half_odd pi pk]
          · have:i≠k:=fun q=>pi (q ▸ pk)
            simp [hi,pi,this]
      · rw [if_neg pk,get_node]
        by_cases hi:i=0
        · simp [hi,Ne.symm hk]
        · by_cases pi:i % 2=1
          · have:i≠k:=fun q=>pk (q ▸ pi)
            simp [hi,pi,this]
          · simp only [hi,pi,hk,pk,if_false,get_set x r,half_even hi hk pi pk]
theorem get_ins (b:Addr) (x:Obj) : ∀ (t:LT) (k:Nat),((t.ins k b x).get k).isSome=true → ∀ i,(t.ins k b x).get i=if i=k then some (b,x) else t.get i
  | .nil,k,h,i=>by
    have e:(LT.nil.ins k b x)=node b x nil nil:=rfl
    rw [e,get_node] at h
    have hk:k=0:=by
      by_cases q:k=0
      · exact q
      · exfalso; revert h; by_cases p:k % 2=1 <;> simp [q,p,get]
    subst hk
    rw [e,get_node]
    by_cases hi:i=0
    · simp [hi]
    · by_cases p:i % 2=1 <;> simp [hi,p,get]
  | .node a o l r,k,h,i=>by
    rw [ins_node] at h ⊢
    rw [get_node a o l r i]
    by_cases hk:k=0
    · subst hk
      rw [if_pos rfl,get_node]
      by_cases hi:i=0 <;> simp [hi]
    · rw [if_neg hk] at h ⊢
      by_cases pk:k % 2=1
      · rw [if_pos pk] at h ⊢
        rw [get_node,if_neg hk,if_pos pk] at h
        rw [get_node]
        by_cases hi:i=0
        · simp [hi,Ne.symm hk]
        · by_cases pi:i % 2=1
          · simp only [hi,pi,if_true,if_false,get_ins b x l _ h,half_odd pi pk]
          · have:i≠k:=fun q=>pi (q ▸ pk)
            simp [hi,pi,this]
      · rw [if_neg pk] at h ⊢
        rw [get_node,if_neg hk,if_neg pk] at h
        rw [get_node]
        by_cases hi:i=0
        · simp [hi,Ne.symm hk]
        · by_cases pi:i % 2=1
          · have:i≠k:=fun q=>pk (q ▸ pi)
            simp [hi,pi,this]
          · simp only [hi,pi,if_false,get_ins b x r _ h,half_even hi hk pi pk]
end LT
structure Eff where
  r:Result
  upd:List (Nat × Addr × Obj)
  new:List (Addr × Obj)
  base:Nat
  tk:Nat
  gb:Nat
structure DetR where
  r:Result
  tk:Nat
  al:List Obj
  upd:List (Nat × Addr × Obj)
  cond:List Prop
  eqs:List (Addr × Addr)
  room:Bool
noncomputable abbrev Rp:=List (Option (Addr × Obj))
set_option genInjectivity true in
inductive Out:Type 1 where
  | ret (r:Result) (rep:Rp) (base off tk gb:Nat) (gl:List GenState) (EA EB:List Addr) (CS:List Prop) (TA TB:List (Sem Fin))
  | again (c:Code) (rep:Rp) (base off tk gb:Nat) (gl:List GenState) (EA EB:List Addr) (CS:List Prop) (TA TB:List (Sem Fin))
  | cut (c:Code) (stk:List (Code × Pos)) (rep:Rp) (base off tk gb:Nat) (EA EB:List Addr) (CS:List Prop) (TA TB:List (Sem Fin)) (rest:Eff→Out)
  | fail (n:Nat) (a:Addr)
structure Cfg where
  prog:Program
  w:World
  den:Code→Sem Fin
  par:Params
  parT:Params
  parF:Params
  kt:KT
  outer:List (Code × Pos)
  det:Nat→Code→LT→Nat→Nat→Nat→Nat→Option DetR
  dag:Nat→Code→LT→Nat→Nat→Nat→Nat→Option DetR
  exs:List (List Nat)
  ids:List Nat
  zs:List Int
  ss:List Str
  alts:List (Sem Fin × Sem Fin)
  sel:Eff→Nat→Nat
  h₀ : Heap
  own:List Addr
  d:Drawn
  os:OsState
noncomputable abbrev Cfg.M (V:Cfg):Model:=model V.prog V.w
noncomputable def roomOk (b:Bool) (l:List (Code × Pos)):Bool:=match b with
  | false=>true
  | true=>Nat.blt (unitsOf l) 9000
noncomputable def selfIter (o:Obj):Bool:=match o.cls with
  | .type n=>["list_iterator", "range_iterator", "tuple_iterator", "str_ascii_iterator"].contains n
  | _=>false
noncomputable def repOf (T:LT) (ids:List Nat):Rp:=ids.map T.get
noncomputable def setUpd (T:LT):List (Nat × Addr × Obj)→LT
  | []=>T
  | (i,_,o) :: r=>setUpd (T.set i o) r
noncomputable def updA:List (Nat × Addr × Obj)→List Addr
  | []=>[]
  | (_,a,_) :: r=>a :: updA r
noncomputable def addrAt (T:LT) (i:Nat) (a:Addr):Addr:=match T.get i with | some (b,_)=>b | none=>a+1
noncomputable def updB (T:LT):List (Nat × Addr × Obj)→List Addr
  | []=>[]
  | (i,a,_) :: r=>addrAt T i a :: updB T r
noncomputable def addNew (T:LT) (m:Nat):List (Addr × Obj)→Option (LT × Nat)
  | []=>some (T,m)
  | (a,o) :: r=>match (T.ins m a o).get m with
    | some _=>addNew (T.ins m a o) (m+1) r
    | none=>none
noncomputable def addAl (T:LT) (m base off:Nat):List Obj→Option (LT × Nat × Nat)
  | []=>some (T,m,off)
  | o :: r=>match (T.ins m (base+off) o).get m with
    | some _=>addAl (T.ins m (base+off) o) (m+1) base (off+1) r
    | none=>none
noncomputable def genIx (gb:Nat):Nat→Nat
  | 0=>gb
  | n+1=>gb+(n+1)
theorem genIx_eq (gb i:Nat):genIx gb i=gb+i:=by cases i <;> rfl
noncomputable abbrev SimT:=Nat→LT→Nat→Nat→Nat→Nat→Nat→List GenState→List Addr→List Addr→List Prop→List (Sem Fin)→List (Sem Fin)→Code→Pos→List Frame→Sem Fin→Out
noncomputable def retM (V:Cfg) (ih:SimT) (k:Result→Sem Fin) (r:Result):SimT:=fun N T m base off tk gb gl EA EB CS TA TB c p st _=>match r with
  | .error e=>ih N T m base off tk gb gl EA EB CS TA TB c p st (k (.error e))
  | .ok fl=>match fl with
    | .ret v=>match v with
      | .bool b=>match Nat.mod N 1024 with
        | 0=>ih (Nat.div N 1024) T m base off tk gb gl EA EB CS TA TB c p st (k (.ok (.ret (.bool b))))
        | h+1=>match h with
          | 0=>ih (Nat.div N 1024) T m base off tk gb gl EA EB ((b=true) :: CS) TA TB c p st (k (.ok (.ret (.bool true))))
          | _+1=>ih (Nat.div N 1024) T m base off tk gb gl EA EB ((b=false) :: CS) TA TB c p st (k (.ok (.ret (.bool false))))
      | .int x q=>match Nat.mod N 1024 with
        | 0=>ih (Nat.div N 1024) T m base off tk gb gl EA EB CS TA TB c p st (k (.ok (.ret (.int x q))))
        | h+1=>match Nat.mod h 2 with
          | 0=>match V.zs[Nat.div h 2]? with
            | some y=>ih (Nat.div N 1024) T m base off tk gb gl EA EB ((x=y) :: CS) TA TB c p st (k (.ok (.ret (.int y q))))
            | none => .fail 60 h
          | _+1=>match V.alts[Nat.div h 2]? with
            | some al=>ih (Nat.div N 1024) T m base off tk gb gl EA EB CS (k (.ok (.ret (.int x q))) :: TA) (al.1 :: TB) c p st al.2
            | none => .fail 61 h
      | .str x q=>match Nat.mod N 1024 with
        | 0=>ih (Nat.div N 1024) T m base off tk gb gl EA EB CS TA TB c p st (k (.ok (.ret (.str x q))))
        | h+1=>match V.ss[h]? with
          | some y=>ih (Nat.div N 1024) T m base off tk gb gl EA EB ((x=y) :: CS) TA TB c p st (k (.ok (.ret (.str y q))))
          | none => .fail 62 h
      | v=>ih N T m base off tk gb gl EA EB CS TA TB c p st (k (.ok (.ret v)))
    | fl=>ih N T m base off tk gb gl EA EB CS TA TB c p st (k (.ok fl))
noncomputable def popM (V:Cfg) (ih:SimT) (r:Result):SimT:=fun N T m base off tk gb gl EA EB CS TA TB _ _ st t=>match st with
  | [] => .ret r (repOf T V.ids) base off tk gb gl EA EB CS TA TB
  | f :: st=>match f with
    | .ret k _ _ _ c p _=>retM V ih k r N T m base off tk gb gl EA EB CS TA TB c p st t
    | .gen g k _ c p=>match gl[Nat.mod N 1024]? with
      | some _=>ih (Nat.div N 1024) T m base off tk gb (gl.set (Nat.mod N 1024) .finished) (g :: EA) (genIx gb (Nat.mod N 1024) :: EB) CS TA TB c p st (k (End.ret r).result)
      | none => .fail 17 0
noncomputable def loadM (V:Cfg) (ih:SimT) (a:Addr) (k:Obj→Sem Fin):SimT:=fun N T m base off tk gb gl EA EB CS TA TB c p st _ =>
  match Nat.mod N 1024 with
  | 0=>match V.kt.get a with
    | some o=>ih (Nat.div N 1024) T m base off tk gb gl EA EB CS TA TB c p st (k o)
    | none => .fail 2 a
  | i+1=>match Nat.beq i 1020 with
    | false=>match T.get i with
      | some (b,o)=>ih (Nat.div N 1024) T m base off tk gb gl (a :: EA) (b :: EB) CS TA TB c p st (k o)
      | none => .fail 3 a
    | true=>match V.alts[Nat.mod (Nat.div N 1024) 1024]? with
      | none => .fail 63 a
      | some al=>match Nat.mod (Nat.div N 1048576) 1024 with
        | 0 => .fail 64 a
        | i+1=>match T.get i with
          | some (b,o)=>ih (Nat.div N 1073741824) T m base off tk gb gl (a :: EA) (b :: EB) CS (k o :: TA) (al.1 :: TB) c p st al.2
          | none => .fail 3 a
noncomputable def redirM (V:Cfg) (ih:SimT) (e:Expr) (d:Nat) (it acc:Value) (env:Env):SimT:=fun N T m base off tk gb gl EA EB CS TA TB _ _ st _ =>
  match it with
  | .ref a=>match Nat.mod N 1024 with
    | 0 => .fail 50 a
    | i+1=>match T.get i with
      | none => .fail 51 a
      | some (b,o)=>match selfIter o with
        | false => .fail 52 a
        | true=>match ((clausesOf e)[d]?).elim false (fun g=>g.is_async != 0) with
          | true => .fail 53 a
          | false=>match V.den (.compLoop e d (.ref a) acc env) with
            | .at q k=>ih (Nat.div N 1024) T m base off tk gb gl (a :: EA) (b :: EB) CS TA TB (.compLoop e d (.ref a) acc env) q st (k ())
            | _ => .fail 54 a
  | _ => .fail 55 0
noncomputable def callH (V:Cfg) (ih:SimT) (c' : Code) (g:Bool) (l:List Value) (k:Result→Sem Fin):SimT:=fun N T m base off tk gb gl EA EB CS TA TB c p st _ =>
  match Nat.mod N 1024 with
  | 0=>ih (Nat.div N 1024) T m base off tk gb gl EA EB CS TA TB c' p (.ret k none g l c p [] :: st) (V.den c')
  | h+1=>match Nat.mod h 2 with
    | 0=>match V.det (Nat.div h 2) c' T (Nat.mod (Nat.div N 1024) 1024) (Nat.mod (Nat.div N 1048576) 1024) tk (base+off) with
      | none => .fail 30 h
      | some x=>match roomOk x.room ((c,p) :: (st.map Frame.where_++V.outer)) with
        | false => .fail 36 h
        | true=>match addAl (setUpd T x.upd) m base off x.al with
          | none => .fail 31 h
          | some (T',m',off')=>retM V ih k x.r (Nat.div N 1073741824) T' m' base off' x.tk gb gl (x.eqs.map Prod.fst++(updA x.upd++EA)) (x.eqs.map Prod.snd++(updB T x.upd++EB)) (x.cond++CS) TA TB c p st (k x.r)
    | _+1=>match V.exs[Nat.div h 2]? with
      | none => .fail 32 h
      | some e=>match gl.all GenState.bare with
        | false => .fail 33 h
        | true=>match marksOver st (none,none) with
          | (none,none) => .cut c' ((c,p) :: (st.map Frame.where_++V.outer)) (repOf T e) base off tk gb EA EB CS TA TB fun x =>
            match addNew (setUpd T x.upd) m x.new with
            | none => .fail 34 h
            | some (T',m')=>ih (V.sel x (Nat.div N 1024)) T' m' x.base 0 x.tk x.gb [] (updA x.upd) (updB T x.upd) [] [] [] c p st (k x.r)
          | _ => .fail 35 h
noncomputable def callM (V:Cfg) (ih:SimT) (c' : Code) (g:Bool) (l:List Value) (k:Result→Sem Fin):SimT:=fun N T m base off tk gb gl EA EB CS TA TB c p st t =>
  match c' with
  | .compStart e d it acc env=>match Nat.beq (Nat.mod N 1024) 1023 with
    | true=>callH V ih (.compStart e d it acc env) g l k (Nat.div N 1024) T m base off tk gb gl EA EB CS TA TB c p st t
    | false=>redirM V ih e d it acc env N T m base off tk gb gl EA EB CS TA TB c p (.ret k none g l c p [] :: st) t
  | c' => callH V ih c' g l k N T m base off tk gb gl EA EB CS TA TB c p st t
noncomputable def wakeM (V:Cfg) (ih:SimT) (c₀ : Code):SimT:=fun N T m base off tk gb gl EA EB CS TA TB c p st t =>
  match c₀ with
  | .compStart e d it acc env=>redirM V ih e d it acc env N T m base off tk gb gl EA EB CS TA TB c p st t
  | c₀ => ih N T m base off tk gb gl EA EB CS TA TB c₀ p st (V.den c₀)
noncomputable def stepM (V:Cfg) (ih:SimT):SimT:=fun N T m base off tk gb gl EA EB CS TA TB c p st t=>match t with
  | .pure fin=>match fin with
    | .done f=>popM V ih (.ok f) N T m base off tk gb gl EA EB CS TA TB c p st t
    | .again c' => match c'.quiet with
      | true=>match st with
        | []=>match Nat.mod N 1024 with
          | 0=>ih (Nat.div N 1024) T m base off tk gb gl EA EB CS TA TB c' p [] (V.den c')
          | _+1 => .again c' (repOf T V.ids) base off tk gb gl EA EB CS TA TB
        | f :: st=>match Nat.mod N 1024 with
          | 0=>ih (Nat.div N 1024) T m base off tk gb gl EA EB CS TA TB c' p (f :: st) (V.den c')
          | h+1=>match V.dag h c' T (Nat.mod (Nat.div N 1024) 1024) (Nat.mod (Nat.div N 1048576) 1024) tk (base+off) with
            | none => .fail 37 h
            | some x=>match addAl (setUpd T x.upd) m base off x.al with
              | none => .fail 31 h
              | some (T',m',off')=>popM V ih x.r (Nat.div N 1073741824) T' m' base off' x.tk gb gl (x.eqs.map Prod.fst++(updA x.upd++EA)) (x.eqs.map Prod.snd++(updB T x.upd++EB)) (x.cond++CS) TA TB c p (f :: st) t
      | false => .fail 5 0
  | .raise e=>popM V ih (.error e) N T m base off tk gb gl EA EB CS TA TB c p st t
  | .rule _ k=>ih N T m base off tk gb gl EA EB CS TA TB c p st (k ())
  | .at p' k=>ih N T m base off tk gb gl EA EB CS TA TB c p' st (k ())
  | .point _ k=>ih N T m base off tk gb gl EA EB CS TA TB c p st (k ())
  | .ask k=>match Nat.mod N 1024 with
    | 0=>ih (Nat.div N 1024) T m base off tk gb gl EA EB CS TA TB c p st (k ⟨V.prog,V.par⟩)
    | _+1=>ih (Nat.div N 1024) T m base off tk gb gl EA EB CS (k ⟨V.prog,V.parT⟩ :: TA) (k ⟨V.prog,V.parF⟩ :: TB) c p st (k ⟨V.prog,V.parT⟩)
  | .load a _ k=>loadM V ih a k N T m base off tk gb gl EA EB CS TA TB c p st t
  | .loadIfAlive a k=>match Nat.mod N 1024 with
      | 0=>match V.kt.get a with
        | some o=>ih (Nat.div N 1024) T m base off tk gb gl EA EB CS TA TB c p st (k (some o))
        | none => .fail 2 a
      | i+1=>match T.get i with
        | some (b,o)=>ih (Nat.div N 1024) T m base off tk gb gl (a :: EA) (b :: EB) CS TA TB c p st (k (some o))
        | none => .fail 3 a
  | .update a _ f k=>match Nat.mod N 1024 with
      | 0 => .fail 4 a
      | i+1=>match T.get i with
        | some (b,o)=>match (f o).isFreed with
          | true => .fail 6 a
          | false=>ih (Nat.div N 1024) (T.set i (f o)) m base off tk gb gl (a :: EA) (b :: EB) CS TA TB c p st (k ())
        | none => .fail 3 a
  | .alloc o k=>match o.isFreed with
    | true => .fail 7 0
    | false=>match (T.ins m (base+off) o).get m with
      | some _=>ih N (T.ins m (base+off) o) (m+1) base (off+1) tk gb gl EA EB CS TA TB c p st (k (base+off))
      | none => .fail 18 m
  | .fresh k=>ih N T m base off (tk+1) gb gl EA EB CS TA TB c p st (k tk)
  | .handled own k=>match own with
    | false=>ih N T m base off tk gb gl EA EB CS TA TB c p st (k (marksOver st (none,none)).1)
    | true => .fail 8 0
  | .stack k=>match Nat.mod N 1024 with
      | 0=>ih (Nat.div N 1024) T m base off tk gb gl EA EB CS TA TB c p st (k ((c,p) :: (st.map Frame.where_++V.outer)))
      | j+1=>match V.alts[j]? with
        | some al=>ih (Nat.div N 1024) T m base off tk gb gl EA EB CS (k ((c,p) :: (st.map Frame.where_++V.outer)) :: TA) (al.1 :: TB) c p st al.2
        | none => .fail 65 j
  | .call c' hd g l k=>match hd with
    | none=>callM V ih c' g l k N T m base off tk gb gl EA EB CS TA TB c p st t
    | some _ => .fail 9 0
  | .newGen c' k=>ih N T m base off tk gb (gl++[.fresh c']) EA EB CS TA TB c p st (k (gb+gl.length))
  | .genState g k=>match gl[Nat.mod N 1024]? with
      | some gs=>ih (Nat.div N 1024) T m base off tk gb gl (g :: EA) (genIx gb (Nat.mod N 1024) :: EB) CS TA TB c p st (k gs.seen)
      | none => .fail 11 g
  | .resume g r l k=>match gl[Nat.mod N 1024]? with
      | some gs=>match gs with
        | .fresh c₀ => match r with
          | .send v=>match v with
            | .none=>wakeM V ih c₀ (Nat.div N 1024) T m base off tk gb (gl.set (Nat.mod N 1024) .running) (g :: EA) (genIx gb (Nat.mod N 1024) :: EB) CS TA TB c p (.gen g k l c p :: st) t
            | _ => .fail 12 g
          | .throw _ => .fail 12 g
        | .suspended k₀ _ c₀ p₀ fs₀ _=>ih (Nat.div N 1024) T m base off tk gb (gl.set (Nat.mod N 1024) .running) (g :: EA) (genIx gb (Nat.mod N 1024) :: EB) CS TA TB c₀ p₀ (fs₀ ++ .gen g k l c p :: st) (k₀ r)
        | .running => .fail 13 g
        | .finished => .fail 14 g
      | none => .fail 11 g
  | .yield v gd l k=>match gd with
    | true => .fail 15 0
    | false=>match splitAtGen st with
      | none => .fail 16 0
      | some (fs,(g,kg,cg,pg),rest)=>match fs.any Frame.guarded with
        | true => .fail 15 0
        | false=>match gl[Nat.mod N 1024]? with
          | some _=>ih (Nat.div N 1024) T m base off tk gb (gl.set (Nat.mod N 1024) (.suspended k l c p fs false)) (g :: EA) (genIx gb (Nat.mod N 1024) :: EB) CS TA TB cg pg rest (kg (.yielded v))
          | none => .fail 11 g
  | .unsupported _ => .fail 20 0
  | .finish _ => .fail 21 0
  | .register .. => .fail 22 0
  | .choose .. => .fail 23 0
  | .os .. => .fail 24 0
  | .fork .. => .fail 25 0
  | .thread _ => .fail 26 0
  | .await .. => .fail 27 0
noncomputable def simM (V:Cfg):Nat→SimT
  | 0=>fun _ _ _ _ _ _ _ _ _ _ _ _ _ _ _ _ _ => .fail 40 0
  | n+1=>stepM V (simM V n)
end Mine
end
section
open PySem PySem.W PySem.W.X PySem.Calls PyProof.Rows
namespace Mine
structure Rep (V:Cfg) (s:Shared) (T:LT) (m base off tk gb:Nat) (gl:List GenState):Prop where
  size:s.heap.objs.size=base+off
  at' : ∀ i a o,T.get i=some (a,o)→i<m∧s.heap.get? a=some o
  ne : ∀ i j a b o o',T.get i=some (a,o)→T.get j=some (b,o')→i≠j→a≠b
  old : ∀ a o,V.kt.get a=some o→s.heap.get? a=some o
  ap : ∀ i a o,T.get i=some (a,o)→V.kt.get a=none
  fr : ∀ i a o,T.get i=some (a,o)→a∈V.own∨V.h₀.get? a=none
  keep : ∀ b o,V.h₀.get? b=some o→b∉V.own→s.heap.get? b=some o
  le:V.h₀.objs.size≤base+off
  toks:s.toks=tk
  gens : ∃ G:Array GenState,G.size=gb∧s.gens=G++gl.toArray ∧ ∀ x∈G,x.bare=true
  drawn:s.drawn=V.d
  os:s.os=V.os
structure Pst (V:Cfg) (s:Shared) (ids:List Nat) (rep:Rp) (base off tk gb:Nat):Prop where
  size:s.heap.objs.size=base+off
  at' : ∀ x a o,x∈rep→x=some (a,o)→s.heap.get? a=some o∧V.kt.get a=none∧(a∈V.own∨V.h₀.get? a=none)
  ne:ids.Nodup → ∀ (i j:Nat) (a b:Addr) (o o' : Obj),i≠j→(show List (Option (Addr × Obj)) from rep)[i]? = some (some (a,o))→(show List (Option (Addr × Obj)) from rep)[j]? = some (some (b,o'))→a≠b
  old : ∀ a o,V.kt.get a=some o→s.heap.get? a=some o
  keep : ∀ b o,V.h₀.get? b=some o→b∉V.own→s.heap.get? b=some o
  le:V.h₀.objs.size≤base+off
  toks:s.toks=tk
  drawn:s.drawn=V.d
  os:s.os=V.os
structure OuterOk (V:Cfg) (O:List Frame):Prop where
  where_:O.map Frame.where_=V.outer
  top:topHandled O=none
  past:topHandled.go true O=none
noncomputable def EndsM (M:Model) (s:Shared) (c:Code) (p:Pos) (st:List Frame) (s' : Shared) (r:Result):Prop:=
  ∃ c' p',Comes M s ⟨M.den c,c,p,st⟩ s' ⟨leafOf r,c',p',st⟩
structure EffOk (e:Eff) (s s' : Shared):Prop where
  size:s'.heap.objs.size=e.base
  le:s.heap.objs.size≤e.base
  upd : ∀ x∈e.upd,s'.heap.get? x.2.1=some x.2.2
  new : ∀ x∈e.new,s'.heap.get? x.1=some x.2∧s.heap.objs.size≤x.1
  nd:(e.new.map (·.1)).Nodup
  updi:(e.upd.map (·.1)).Nodup
  keep : ∀ b o,s.heap.get? b=some o→(∀ x∈e.upd,x.2.1≠b)→s'.heap.get? b=some o
  toks:s'.toks=e.tk
  gens:s'.gens.size=e.gb
  bare:(∀ x∈s.gens,x.bare=true) → ∀ x∈s'.gens,x.bare=true
  drawn:s'.drawn=s.drawn
  os:s'.os=s.os
noncomputable def OutOk (V:Cfg) (Q:Result ⊕ Code→Shared→Prop):Out→Prop
  | .ret r rep base off tk gb gl EA EB CS TA TB=>EA=EB∧TA=TB∧(∀ c∈CS,c) ∧ ∀ s,Pst V s V.ids rep base off tk gb→s.gens.size=gb+gl.length→((∀ x∈gl,x.bare=true) → ∀ x∈s.gens,x.bare=true)→Q (.inl r) s
  | .again c rep base off tk gb gl EA EB CS TA TB=>EA=EB∧TA=TB∧(∀ c∈CS,c) ∧ ∀ s,Pst V s V.ids rep base off tk gb→s.gens.size=gb+gl.length→((∀ x∈gl,x.bare=true) → ∀ x∈s.gens,x.bare=true)→Q (.inr c) s
  | .cut c stk rep base off tk gb EA EB CS TA TB rest=>EA=EB∧TA=TB∧(∀ c∈CS,c) ∧ ∀ s p k g l c₀ st,(∃ ids,ids.Nodup∧Pst V s ids rep base off tk gb)→(∀ x∈s.gens,x.bare=true)→gb≤s.gens.size →
      (c₀,p) :: st.map Frame.where_=stk→topHandled st=none→topHandled.go true st=none → ∃ e s',EndsM V.M s c p (.ret k none g l c₀ p [] :: st) s' e.r∧EffOk e s s' ∧ OutOk V Q (rest e)
  | .fail .. => False
noncomputable def FinA (M:Model) (s:Shared) (th:Thread) (O:List Frame) (Q:Result ⊕ Code→Shared→Prop):Prop:=
  ∃ s' c' p',(∃ r,Comes M s th s' ⟨leafOf r,c',p',O⟩∧Q (.inl r) s')∨(∃ c₁,c' = c₁ ∧ Comes M s th s' ⟨M.den c₁,c₁,p',O⟩∧Q (.inr c₁) s')
theorem FinA.step {M:Model} {s s₁ : Shared} {th th₁ : Thread} {O:List Frame} {Q} (h:M.step s th = .go s₁ th₁) (x:FinA M s₁ th₁ O Q):FinA M s th O Q:=by
  obtain ⟨s',c',p',y⟩:=x
  refine ⟨s',c',p', ?_⟩
  rcases y with ⟨r,y,q⟩ | ⟨c₁,e,y,q⟩
  · exact .inl ⟨r, .step h y,q⟩
  · exact .inr ⟨c₁,e, .step h y,q⟩
theorem FinA.comes {M:Model} {s s₁ : Shared} {th th₁ : Thread} {O:List Frame} {Q} (h:Comes M s th s₁ th₁) (x:FinA M s₁ th₁ O Q):FinA M s th O Q:=by
  obtain ⟨s',c',p',y⟩:=x
  refine ⟨s',c',p', ?_⟩
  rcases y with ⟨r,y,q⟩ | ⟨c₁,e,y,q⟩
  · exact .inl ⟨r, .trans h y,q⟩
  · exact .inr ⟨c₁,e, .trans h y,q⟩
structure Lk (V:Cfg) (T:LT) (s:Shared):Prop where
  at' : ∀ i a o,T.get i=some (a,o)→s.heap.get? a=some o
  ne : ∀ i j a b o o',T.get i=some (a,o)→T.get j=some (b,o')→i≠j→a≠b
  old : ∀ a o,V.kt.get a=some o→s.heap.get? a=some o
theorem Rep.lk {V:Cfg} {s:Shared} {T:LT} {m base off tk gb:Nat} {gl:List GenState} (R:Rep V s T m base off tk gb gl):Lk V T s:=⟨fun i a o e=>(R.at' i a o e).2,R.ne,R.old⟩
structure DEff (x:DetR) (a:Nat) (s s' : Shared):Prop where
  size:s'.heap.objs.size=a+x.al.length
  upd : ∀ e∈x.upd,s'.heap.get? e.2.1=some e.2.2
  new : ∀ i o,x.al[i]? = some o→s'.heap.get? (a+i)=some o
  updi:(x.upd.map (·.1)).Nodup
  keep : ∀ b o,s.heap.get? b=some o→(∀ e∈x.upd,e.2.1≠b)→s'.heap.get? b=some o
  toks:s'.toks=x.tk
  gens:s'.gens=s.gens
  drawn:s'.drawn=s.drawn
  os:s'.os=s.os
noncomputable def DetOk (V:Cfg):Prop:= ∀ j c T n₁ n₂ tk a x,V.det j c T n₁ n₂ tk a=some x→(∀ c∈x.cond,c)→(∀ e∈x.eqs,e.1=e.2)→updA x.upd=updB T x.upd → ∀ s p k g l c₀ st,Lk V T s→s.toks=tk→s.heap.objs.size=a →
  (x.room=true→unitsOf ((c₀,p) :: st.map Frame.where_)<9000) →
  ∃ s' c' p',Comes V.M s ⟨V.M.den c,c,p, .ret k none g l c₀ p [] :: st⟩ s' ⟨leafOf x.r,c',p', .ret k none g l c₀ p [] :: st⟩∧DEff x a s s'
noncomputable def DagOk (V:Cfg):Prop:= ∀ j c T n₁ n₂ tk a x,V.dag j c T n₁ n₂ tk a=some x→(∀ c∈x.cond,c)→(∀ e∈x.eqs,e.1=e.2)→updA x.upd=updB T x.upd → ∀ s p st,Lk V T s→s.toks=tk→s.heap.objs.size=a →
  ∃ s' c' p',Comes V.M s ⟨V.M.den c,c,p,st⟩ s' ⟨leafOf x.r,c',p',st⟩∧DEff x a s s'
theorem upd_split : ∀ {l:List (Nat × Addr × Obj)} {T:LT} {A B:List Addr},updA l++A=updB T l++B→updA l=updB T l∧A=B
  | [],_,_,_,h=>⟨rfl,h⟩
  | (i,a,o) :: l,T,A,B,h=>by
    have h' : a :: (updA l++A)=addrAt T i a :: (updB T l++B):=h
    obtain ⟨h1,h2⟩:=List.cons.inj h'
    obtain ⟨h3,h4⟩:=upd_split (l:=l) h2
    refine ⟨?_,h4⟩
    show a :: updA l=addrAt T i a :: updB T l
    rw [← h1,h3]
theorem eqs_split : ∀ {l:List (Addr × Addr)} {A B:List Addr},l.map Prod.fst++A=l.map Prod.snd++B→(∀ e∈l,e.1=e.2)∧A=B
  | [],_,_,h=>⟨fun _ q=>(nomatch q),h⟩
  | x :: l,A,B,h=>by
    obtain ⟨h1,h2⟩:=List.cons.inj h
    obtain ⟨h3,h4⟩:=eqs_split (l:=l) h2
    refine ⟨fun e he => ?_,h4⟩
    cases he with
    | head=>exact h1
    | tail _ he=>exact h3 e he
structure Cfg.Ok (V:Cfg):Prop where
  den:V.den=V.M.den
  par:V.par=V.w.params
  parTF:V.w.params=V.parT∨V.w.params=V.parF
  det:DetOk V
  dag:DagOk V
  alts : ∀ x∈V.alts,x.1=x.2
  nd:V.ids.Nodup
  exs : ∀ e∈V.exs,e.Nodup
noncomputable abbrev IHE (V:Cfg) (ih:SimT):Prop:= ∀ N T m base off tk gb gl EA EB CS TA TB c p st t Q,OutOk V Q (ih N T m base off tk gb gl EA EB CS TA TB c p st t)→EA=EB∧TA=TB ∧ ∀ x∈CS,x
section
variable {V:Cfg} {ih:SimT} (I:IHE V ih) {N:Nat} {T:LT} {m base off tk gb:Nat} {gl:List GenState} {EA EB:List Addr} {CS:List Prop} {TA TB:List (Sem Fin)} {c:Code} {p:Pos} {st:List Frame} {t:Sem Fin} {Q:Result ⊕ Code→Shared→Prop}
include I
theorem eq_tail {a b:Addr} {N T m base off tk gb gl c p st t} (h:OutOk V Q (ih N T m base off tk gb gl (a :: EA) (b :: EB) CS TA TB c p st t)):a=b∧EA=EB∧TA=TB ∧ ∀ x∈CS,x:=by
  obtain ⟨h1,h2⟩:=I _ _ _ _ _ _ _ _ _ _ _ _ _ _ _ _ _ _ h
  exact ⟨(List.cons.inj h1).1,(List.cons.inj h1).2,h2⟩
theorem retE {k:Result→Sem Fin} {r:Result} (h:OutOk V Q (retM V ih k r N T m base off tk gb gl EA EB CS TA TB c p st t)):EA=EB∧TA=TB ∧ ∀ x∈CS,x:=by
  have cs : ∀ {x:Prop} {N T m base off tk gb gl c p st t},OutOk V Q (ih N T m base off tk gb gl EA EB (x :: CS) TA TB c p st t)→EA=EB∧TA=TB ∧ ∀ x∈CS,x:=fun h=>by
    obtain ⟨h1,h2,h3⟩:=I _ _ _ _ _ _ _ _ _ _ _ _ _ _ _ _ _ _ h
    exact ⟨h1,h2,fun x hx=>h3 x (.tail _ hx)⟩
  unfold retM at h
  cases r with
  | error e=>exact I _ _ _ _ _ _ _ _ _ _ _ _ _ _ _ _ _ _ h
  | ok fl =>
    cases fl with
    | ret v =>
      cases v with
      | bool b =>
        dsimp only at h
        split at h
        · exact I _ _ _ _ _ _ _ _ _ _ _ _ _ _ _ _ _ _ h
        · split at h
          · exact cs h
          · exact cs h
      | int x q =>
        dsimp only at h
        split at h
        · exact I _ _ _ _ _ _ _ _ _ _ _ _ _ _ _ _ _ _ h
        · split at h
          · split at h
            · exact cs h
            · cases h
          · split at h
            · obtain ⟨h1,h2,h3⟩:=I _ _ _ _ _ _ _ _ _ _ _ _ _ _ _ _ _ _ h
              exact ⟨h1,(List.cons.inj h2).2,h3⟩
            · cases h
      | str x q =>
        dsimp only at h
        split at h
        · exact I _ _ _ _ _ _ _ _ _ _ _ _ _ _ _ _ _ _ h
        · split at h
          · exact cs h
          · cases h
      | _=>exact I _ _ _ _ _ _ _ _ _ _ _ _ _ _ _ _ _ _ h
    | _=>exact I _ _ _ _ _ _ _ _ _ _ _ _ _ _ _ _ _ _ h
theorem popE {r:Result} (h:OutOk V Q (popM V ih r N T m base off tk gb gl EA EB CS TA TB c p st t)):EA=EB∧TA=TB ∧ ∀ x∈CS,x:=by
  unfold popM at h
  cases st with
  | nil=>exact ⟨h.1,h.2.1,h.2.2.1⟩
  | cons f st =>
    cases f with
    | ret k hd g l c₁ p₁ kp=>exact retE I h
    | gen g k l c₁ p₁ =>
      dsimp only at h
      split at h
      · exact (eq_tail I h).2
      · cases h
theorem loadE {a:Addr} {k:Obj→Sem Fin} (h:OutOk V Q (loadM V ih a k N T m base off tk gb gl EA EB CS TA TB c p st t)):EA=EB∧TA=TB ∧ ∀ x∈CS,x:=by
  unfold loadM at h
  split at h
  · split at h
    · exact I _ _ _ _ _ _ _ _ _ _ _ _ _ _ _ _ _ _ h
    · cases h
  · split at h
    · split at h
      · exact (eq_tail I h).2
      · cases h
    · split at h
      · cases h
      · split at h
        · cases h
        · split at h
          · obtain ⟨h1,h2,h3⟩:=I _ _ _ _ _ _ _ _ _ _ _ _ _ _ _ _ _ _ h
            exact ⟨(List.cons.inj h1).2,(List.cons.inj h2).2,h3⟩
          · cases h
theorem redirE {e:Expr} {d:Nat} {it acc:Value} {env:Env} (h:OutOk V Q (redirM V ih e d it acc env N T m base off tk gb gl EA EB CS TA TB c p st t)):EA=EB∧TA=TB ∧ ∀ x∈CS,x:=by
  unfold redirM at h
  cases it with
  | ref a =>
    dsimp only at h
    split at h
    · cases h
    · split at h
      · cases h
      · split at h
        · cases h
        · split at h
          · cases h
          · split at h
            · exact (eq_tail I h).2
            · cases h
  | _=>cases h
theorem callHE {c' : Code} {g:Bool} {l:List Value} {k:Result→Sem Fin} (h:OutOk V Q (callH V ih c' g l k N T m base off tk gb gl EA EB CS TA TB c p st t)):EA=EB∧TA=TB ∧ ∀ x∈CS,x:=by
  unfold callH at h
  split at h
  · exact I _ _ _ _ _ _ _ _ _ _ _ _ _ _ _ _ _ _ h
  · split at h
    · split at h
      · cases h
      · split at h
        · cases h
        · split at h
          · cases h
          · obtain ⟨h1,h2⟩:=retE I h
            exact ⟨(upd_split (eqs_split h1).2).2,h2.1,fun x hx=>h2.2 x (List.mem_append_right _ hx)⟩
    · split at h
      · cases h
      · split at h
        · cases h
        · split at h
          · exact ⟨h.1,h.2.1,h.2.2.1⟩
          · cases h
theorem callE {c' : Code} {g:Bool} {l:List Value} {k:Result→Sem Fin} (h:OutOk V Q (callM V ih c' g l k N T m base off tk gb gl EA EB CS TA TB c p st t)):EA=EB∧TA=TB ∧ ∀ x∈CS,x:=by
  unfold callM at h
  cases c' with
  | compStart =>
    dsimp only at h
    split at h
    · exact callHE I h
    · exact redirE I h
  | _=>exact callHE I h
theorem wakeE {c₀ : Code} (h:OutOk V Q (wakeM V ih c₀ N T m base off tk gb gl EA EB CS TA TB c p st t)):EA=EB∧TA=TB ∧ ∀ x∈CS,x:=by
  unfold wakeM at h
  cases c₀ with
  | compStart=>exact redirE I h
  | _=>exact I _ _ _ _ _ _ _ _ _ _ _ _ _ _ _ _ _ _ h
theorem stepE (h:OutOk V Q (stepM V ih N T m base off tk gb gl EA EB CS TA TB c p st t)):EA=EB∧TA=TB ∧ ∀ x∈CS,x:=by
  cases t with
  | pure fin =>
    cases fin with
    | done f=>exact popE I (c:=c) (p:=p) (t:= .pure (.done f)) h
    | again c' =>
      simp only [stepM] at h
      split at h
      · split at h
        · split at h
          · exact I _ _ _ _ _ _ _ _ _ _ _ _ _ _ _ _ _ _ h
          · exact ⟨h.1,h.2.1,h.2.2.1⟩
        · split at h
          · exact I _ _ _ _ _ _ _ _ _ _ _ _ _ _ _ _ _ _ h
          · split at h
            · cases h
            · split at h
              · cases h
              · obtain ⟨h1,h2⟩:=popE I h
                exact ⟨(upd_split (eqs_split h1).2).2,h2.1,fun x hx=>h2.2 x (List.mem_append_right _ hx)⟩
      · cases h
  | raise e=>exact popE I (c:=c) (p:=p) (t:= .raise e) h
  | rule tag k=>exact I _ _ _ _ _ _ _ _ _ _ _ _ _ _ _ _ _ _ h
  | «at» q k=>exact I _ _ _ _ _ _ _ _ _ _ _ _ _ _ _ _ _ _ h
  | point l k=>exact I _ _ _ _ _ _ _ _ _ _ _ _ _ _ _ _ _ _ h
  | ask k =>
    simp only [stepM] at h
    split at h
    · exact I _ _ _ _ _ _ _ _ _ _ _ _ _ _ _ _ _ _ h
    · obtain ⟨h1,h2,h3⟩:=I _ _ _ _ _ _ _ _ _ _ _ _ _ _ _ _ _ _ h
      exact ⟨h1,(List.cons.inj h2).2,h3⟩
  | load a q k=>exact loadE I (t:= .load a q k) h
  | loadIfAlive a k =>
    simp only [stepM] at h
    split at h
    · split at h
      · exact I _ _ _ _ _ _ _ _ _ _ _ _ _ _ _ _ _ _ h
      · cases h
    · split at h
      · exact (eq_tail I h).2
      · cases h
  | update a q f k =>
    simp only [stepM] at h
    split at h
    · cases h
    · split at h
      · split at h
        · cases h
        · exact (eq_tail I h).2
      · cases h
  | alloc o k =>
    simp only [stepM] at h
    split at h
    · cases h
    · split at h
      · exact I _ _ _ _ _ _ _ _ _ _ _ _ _ _ _ _ _ _ h
      · cases h
  | fresh k=>exact I _ _ _ _ _ _ _ _ _ _ _ _ _ _ _ _ _ _ h
  | handled own k =>
    cases own with
    | false=>exact I _ _ _ _ _ _ _ _ _ _ _ _ _ _ _ _ _ _ h
    | true=>cases h
  | stack k =>
    simp only [stepM] at h
    split at h
    · exact I _ _ _ _ _ _ _ _ _ _ _ _ _ _ _ _ _ _ h
    · split at h
      · obtain ⟨h1,h2,h3⟩:=I _ _ _ _ _ _ _ _ _ _ _ _ _ _ _ _ _ _ h
        exact ⟨h1,(List.cons.inj h2).2,h3⟩
      · cases h
  | call c' hd g l k =>
    cases hd with
    | none=>exact callE I h
    | some _=>cases h
  | newGen c' k=>exact I _ _ _ _ _ _ _ _ _ _ _ _ _ _ _ _ _ _ h
  | genState g k =>
    simp only [stepM] at h
    split at h
    · exact (eq_tail I h).2
    · cases h
  | resume g r l k =>
    simp only [stepM] at h
    split at h
    · split at h
      · split at h
        · split at h
          · obtain ⟨h1,h2⟩:=wakeE I h
            exact ⟨(List.cons.inj h1).2,h2⟩
          · cases h
        · cases h
      · exact (eq_tail I h).2
      · cases h
      · cases h
    · cases h
  | yield v gd l k =>
    simp only [stepM] at h
    split at h
    · cases h
    · split at h
      · cases h
      · split at h
        · cases h
        · split at h
          · exact (eq_tail I h).2
          · cases h
  | _=>cases h
end
theorem simE (V:Cfg) : ∀ n,IHE V (simM V n)
  | 0=>fun _ _ _ _ _ _ _ _ _ _ _ _ _ _ _ _ _ _ h=>by cases h
  | n+1=>fun _ _ _ _ _ _ _ _ _ _ _ _ _ _ _ _ _ _ h=>stepE (simE V n) h
end Mine
end
section
open PySem PySem.W PySem.W.X PySem.Calls PyProof.Rows
namespace Mine
section
variable {V:Cfg} {s:Shared} {T:LT} {m base off tk gb:Nat} {gl:List GenState}
theorem Rep.alloc (R:Rep V s T m base off tk gb gl) {o:Obj} (hf:o.isFreed=false) (hg:((T.ins m (base+off) o).get m).isSome=true) :
    Rep V {s with heap:=s.heap.push o} (T.ins m (base+off) o) (m+1) base (off+1) tk gb gl:=by
  have ins:=LT.get_ins (base+off) o T m hg
  have hs:s.heap.objs.size=base+off:=R.size
  refine ⟨?_, ?_, ?_, ?_, ?_, ?_, ?_, ?_,R.toks,R.gens,R.drawn,R.os⟩
  · show (s.heap.push o).objs.size=_
    rw [Heap.size_push,hs,Nat.add_assoc]
  · intro i a o' e
    rw [ins] at e
    by_cases hi:i=m
    · rw [if_pos hi] at e
      cases e
      refine ⟨by lia, ?_⟩
      show (s.heap.push o).get? _=_
      rw [← hs]; exact Heap.get?_push_size _ hf
    · rw [if_neg hi] at e
      have z:=R.at' i a o' e
      exact ⟨by lia,Heap.get?_push_of_some _ z.2⟩
  · intro i j a b o₁ o₂ e₁ e₂ hij
    rw [ins] at e₁ e₂
    by_cases hi:i=m
    · by_cases hj:j=m
      · exact absurd (hi.trans hj.symm) hij
      · rw [if_pos hi] at e₁
        rw [if_neg hj] at e₂
        cases e₁
        have z:=Heap.lt_size (R.at' j b o₂ e₂).2
        rw [hs] at z
        exact Nat.ne_of_gt z
    · rw [if_neg hi] at e₁
      by_cases hj:j=m
      · rw [if_pos hj] at e₂
        cases e₂
        have z:=Heap.lt_size (R.at' i a o₁ e₁).2
        rw [hs] at z
        exact Nat.ne_of_lt z
      · rw [if_neg hj] at e₂
        exact R.ne i j a b o₁ o₂ e₁ e₂ hij
  · exact fun a o' e=>Heap.get?_push_of_some _ (R.old a o' e)
  · intro i a o' e
    rw [ins] at e
    by_cases hi:i=m
    · rw [if_pos hi] at e
      cases e
      cases q:V.kt.get (base+off) with
      | none=>rfl
      | some o₂ => exact absurd (Heap.lt_size (R.old _ _ q)) (by rw [hs]; exact Nat.lt_irrefl _)
    · rw [if_neg hi] at e; exact R.ap i a o' e
  · intro i a o' e
    rw [ins] at e
    by_cases hi:i=m
    · rw [if_pos hi] at e
      cases e
      right
      cases q:V.h₀.get? (base+off) with
      | none=>rfl
      | some o₂ => exact absurd (Heap.lt_size q) (Nat.not_lt.mpr R.le)
    · rw [if_neg hi] at e; exact R.fr i a o' e
  · exact fun b o' e h=>Heap.get?_push_of_some _ (R.keep b o' e h)
  · have:=R.le; lia
theorem Rep.update (R:Rep V s T m base off tk gb gl) {i:Nat} {a:Addr} {o:Obj} {f:Obj→Obj} (e:T.get i=some (a,o)) (hf:(f o).isFreed=false) :
    Rep V {s with heap:=s.heap.update a f} (T.set i (f o)) m base off tk gb gl:=by
  have ho:=(R.at' i a o e).2
  have hs:Heap.SameBut a s.heap (s.heap.update a f):=Heap.SameBut.update ..
  have gs:=LT.get_set (f o) T i
  refine ⟨?_, ?_, ?_, ?_, ?_, ?_, ?_,R.le,R.toks,R.gens,R.drawn,R.os⟩
  · exact hs.1.trans R.size
  · intro j b o' e'
    rw [gs] at e'
    by_cases hj:j=i
    · subst hj
      rw [if_pos rfl,e] at e'
      cases e'
      exact ⟨(R.at' j a o e).1,Heap.get?_update_self _ ho hf⟩
    · rw [if_neg hj] at e'
      have z:=R.at' j b o' e'
      exact ⟨z.1,(hs.2 b (R.ne j i b a o' o e' e hj)).trans z.2⟩
  · intro j k b d o₁ o₂ e₁ e₂ hjk
    rw [gs] at e₁ e₂
    have key : ∀ j b o₁,(if j=i then (T.get i).map (fun p=>(p.1,f o)) else T.get j)=some (b,o₁) → ∃ o',T.get j=some (b,o'):=by
      intro j b o₁ h
      by_cases hj:j=i
      · subst hj; rw [if_pos rfl,e] at h; cases h; exact ⟨o,e⟩
      · rw [if_neg hj] at h; exact ⟨o₁,h⟩
    obtain ⟨_,h1⟩:=key j b o₁ e₁
    obtain ⟨_,h2⟩:=key k d o₂ e₂
    exact R.ne j k b d _ _ h1 h2 hjk
  · intro b o' e'
    refine (hs.2 b fun z => ?_).trans (R.old b o' e')
    have:=R.ap i a o e
    rw [← z,e'] at this; cases this
  · intro j b o' e'
    rw [gs] at e'
    by_cases hj:j=i
    · subst hj; rw [if_pos rfl,e] at e'; cases e'; exact R.ap j a o e
    · rw [if_neg hj] at e'; exact R.ap j b o' e'
  · intro j b o' e'
    rw [gs] at e'
    by_cases hj:j=i
    · subst hj; rw [if_pos rfl,e] at e'; cases e'; exact R.fr j a o e
    · rw [if_neg hj] at e'; exact R.fr j b o' e'
  · intro b o' e' h
    refine (hs.2 b fun z => ?_).trans (R.keep b o' e' h)
    rcases R.fr i a o e with q | q
    · exact h (z ▸ q)
    · rw [← z,e'] at q; cases q
theorem Rep.fresh (R:Rep V s T m base off tk gb gl):Rep V {s with toks:=s.toks+1} T m base off (tk+1) gb gl:=
  ⟨R.size,R.at',R.ne,R.old,R.ap,R.fr,R.keep,R.le,by show s.toks+1=_; rw [R.toks],R.gens,R.drawn,R.os⟩
theorem Rep.newGen (R:Rep V s T m base off tk gb gl) (c:Code):Rep V {s with gens:=s.gens.push (.fresh c)} T m base off tk gb (gl++[.fresh c]):=by
  obtain ⟨G,h1,h2,h3⟩:=R.gens
  exact ⟨R.size,R.at',R.ne,R.old,R.ap,R.fr,R.keep,R.le,R.toks,⟨G,h1,by show s.gens.push _=_; rw [h2]; apply Array.ext'; simp,h3⟩,R.drawn,R.os⟩
theorem Rep.gensSize (R:Rep V s T m base off tk gb gl):s.gens.size=gb+gl.length:=by
  obtain ⟨G,h1,h2,h3⟩:=R.gens
  rw [h2]; simp [h1]
theorem Rep.gensBare (R:Rep V s T m base off tk gb gl) (h : ∀ x∈gl,x.bare=true) : ∀ x∈s.gens,x.bare=true:=by
  obtain ⟨G,h1,h2,h3⟩:=R.gens
  rw [h2]
  intro x hx
  rcases Array.mem_append.mp hx with q | q
  · exact h3 x q
  · exact h x (by simpa using q)
theorem Rep.genAt (R:Rep V s T m base off tk gb gl) {i:Nat} {x:GenState} (h:gl[i]? = some x):s.gens[gb+i]? = some x:=by
  obtain ⟨G,h1,h2,h3⟩:=R.gens
  rw [h2,← h1,Array.getElem?_append_right (by lia)]
  simpa using h
theorem Rep.setGen (R:Rep V s T m base off tk gb gl) (i:Nat) (y:GenState):Rep V (s.setGen (gb+i) y) T m base off tk gb (gl.set i y):=by
  obtain ⟨G,h1,h2,h3⟩:=R.gens
  refine ⟨R.size,R.at',R.ne,R.old,R.ap,R.fr,R.keep,R.le,R.toks,⟨G,h1, ?_,h3⟩,R.drawn,R.os⟩
  show s.gens.setIfInBounds (gb+i) y=_
  rw [h2,← h1]
  apply Array.ext'
  simp
theorem pst_of (R:Rep V s T m base off tk gb gl) (ids:List Nat):Pst V s ids (repOf T ids) base off tk gb where
  size:=R.size
  at' :=by
    intro x a o hx e
    subst e
    obtain ⟨i,_,e⟩:=List.mem_map.mp hx
    exact ⟨(R.at' i a o e).2,R.ap i a o e,R.fr i a o e⟩
  ne:=by
    intro nd i j a b o o' hij e1 e2
    unfold repOf at e1 e2
    dsimp only at e1 e2
    rw [List.getElem?_map] at e1 e2
    cases q1:ids[i]? with
    | none=>rw [q1] at e1; cases e1
    | some k1 =>
      cases q2:ids[j]? with
      | none=>rw [q2] at e2; cases e2
      | some k2 =>
        rw [q1] at e1; rw [q2] at e2
        simp only [Option.map_some,Option.some.injEq] at e1 e2
        refine R.ne k1 k2 a b o o' e1 e2 fun hk=>hij ?_
        obtain ⟨l1,r1⟩:=List.getElem?_eq_some_iff.mp q1
        obtain ⟨l2,r2⟩:=List.getElem?_eq_some_iff.mp q2
        exact (List.getElem_inj nd).mp (by rw [r1,r2,hk])
  old:=R.old
  keep:=R.keep
  le:=R.le
  toks:=R.toks
  drawn:=R.drawn
  os:=R.os
end
theorem pyIter_self {prog:Program} {w:World} {A:Around} {E:Value→Shared→Prop} {s:Shared} {a:Addr} {o:Obj} {Q:Value→Shared→Prop} (ho:s.heap.get? a=some o) (hs:selfIter o=true) (h:Q (.ref a) s) :
    wpAny (model prog w) A (pyIter (.ref a)) Q E s:=by
  unfold selfIter at hs
  split at hs
  · rename_i n hn
    have hT:s.TypeIs (.ref a) n:=⟨o,ho,hn⟩
    simp only [List.contains_cons,List.contains_nil,Bool.or_false,Bool.or_eq_true,beq_iff_eq] at hs
    rcases hs with rfl | rfl | rfl | rfl
    · refine wpAny_pyIter_slot hT slot_listiter_iter (wpAny_call_entry slot_listiter_iter hT entry_listiter_iter ?_ (args_listiter_iter _))
      show wpAny _ _ (ret (.ref a)) _ _ s
      exact wpAny_pure ⟨_,rfl, "list_iterator", _,hT,slot_listiter_next.lookup,h⟩
    · refine wpAny_pyIter_slot hT F.slot_range_iterator_iter (wpAny_call_entry F.slot_range_iterator_iter hT F.entry_range_iterator_iter ?_ (F.args_range_iterator_iter_1 _))
      show wpAny _ _ (ret (.ref a)) _ _ s
      exact wpAny_pure ⟨_,rfl, "range_iterator", _,hT,F.slot_range_iterator_next.lookup,h⟩
    · refine wpAny_pyIter_slot hT F.slot_tuple_iterator_iter (wpAny_call_entry F.slot_tuple_iterator_iter hT F.entry_tuple_iterator_iter ?_ (F.args_tuple_iterator_iter_1 _))
      show wpAny _ _ (ret (.ref a)) _ _ s
      exact wpAny_pure ⟨_,rfl, "tuple_iterator", _,hT,F.slot_tuple_iterator_next.lookup,h⟩
    · refine wpAny_pyIter_slot hT F.slot_str_ascii_iterator_iter (wpAny_call_entry F.slot_str_ascii_iterator_iter hT F.entry_str_ascii_iterator_iter ?_ (F.args_str_ascii_iterator_iter_1 _))
      show wpAny _ _ (ret (.ref a)) _ _ s
      exact wpAny_pure ⟨_,rfl, "str_ascii_iterator", _,hT,F.slot_str_ascii_iterator_next.lookup,h⟩
  · cases hs
theorem fits_comes {M:Model} {c:Code} {t:Sem Fin} {p:Pos} {s:Shared} {st:List Frame} {Q:Fin→Shared→Prop}
    (h : ∀ A,wpAny M A t Q (fun _ _=>False) s) : ∃ s' p' a,Comes M s ⟨t,c,p,st⟩ s' ⟨.pure a,c,p',st⟩∧Q a s' :=by
  have hf:=Ctx.fits_of c st
  have hin:(Ctx.of c st).In {handled:=topHandled st,depth:=frameCount (st.map Frame.where_)+c.weight,frames:=none,guards:=none,units:=(Ctx.of c st).units}:=
    ⟨rfl,Nat.le_refl _,fun l hl=>(nomatch hl),fun g hg=>(nomatch hg),Nat.le_refl _⟩
  obtain ⟨s',p',leaf,hc,hl⟩:=wp_comes (M:=M) hf t _ _ p s (h _ _ p hin)
  rcases hl with ⟨a,rfl,q⟩ | ⟨e,_,q⟩
  · exact ⟨s',p',a,hc,q⟩
  · exact q.elim
theorem comp_twice {prog:Program} {w:World} {A:Around} {s:Shared} {e:Expr} {d:Nat} {a:Addr} {o:Obj} {acc:Value} {env:Env} (ho:s.heap.get? a=some o) (hs:selfIter o=true)
    (hy:((clausesOf e)[d]?).elim false (fun g=>g.is_async != 0)=false) :
    wpAny (model prog w) A (compStart e d (.ref a) acc env) (fun fin s' => fin = .again (.compLoop e d (.ref a) acc env)∧s' = s) (fun _ _=>False) s:=by
  unfold compStart
  rw [hy]
  simp only [Bool.false_eq_true,if_false]
  refine wpAny_bind (wpAny_askSetting ?_)
  have key:wpAny (model prog w) A (pyIter (.ref a) >>= fun x=>again (.compLoop e d x acc env)) (fun fin s' => fin = .again (.compLoop e d (.ref a) acc env)∧s' = s) (fun _ _=>False) s:=
    wpAny_bind (pyIter_self ho hs (wpAny_pure ⟨rfl,rfl⟩))
  split
  · exact wpAny_pure ⟨rfl,rfl⟩
  · refine wpAny_bind (wpAny_rule ?_)
    split
    · exact wpAny_bind (wpAny_standAt key)
    · exact key
theorem comp_redirect {prog:Program} {w:World} {s:Shared} {e:Expr} {d:Nat} {a:Addr} {o:Obj} {acc:Value} {env:Env} (ho:s.heap.get? a=some o) (hs:selfIter o=true)
    (hy:((clausesOf e)[d]?).elim false (fun g=>g.is_async != 0)=false) (p:Pos) (st:List Frame) :
    ∃ p',Comes (model prog w) s ⟨(model prog w).den (.compStart e d (.ref a) acc env), .compStart e d (.ref a) acc env,p,st⟩
      s ⟨(model prog w).den (.compLoop e d (.ref a) acc env), .compLoop e d (.ref a) acc env,p',st⟩:=by
  have h : ∀ A,wpAny (model prog w) A ((model prog w).den (.compStart e d (.ref a) acc env)) (fun fin s' => fin = .again (.compLoop e d (.ref a) acc env)∧s' = s) (fun _ _=>False) s:=by
    intro A
    show wpAny _ _ (if _ then _ else _) _ _ _
    split <;> exact wpAny_onRaise (wpAny_mono (comp_twice ho hs hy) (fun _ _ x=>x) fun _ _ x=>x.elim)
  obtain ⟨s',p',fin,hc,rfl,rfl⟩:=fits_comes (c:= .compStart e d (.ref a) acc env) (p:=p) (st:=st) h
  exact ⟨p', .trans hc (.step (step_again _ _ _ _ _ _ rfl) (.refl _ _))⟩
end Mine
end
section
open PySem PySem.W PySem.W.X PySem.Calls PyProof.Rows
namespace Mine
theorem splitAppend {st O:List Frame} {fs b rest} (h:splitAtGen st=some (fs,b,rest)):splitAtGen (st++O)=some (fs,b,rest++O):=splitAtGen_append_some O h
theorem setUpd_get : ∀ (u:List (Nat × Addr × Obj)) (T:LT),(u.map (·.1)).Nodup → ∀ i,(setUpd T u).get i=match u.find? (fun x=>x.1 == i) with | some x=>(T.get i).map (fun p=>(p.1,x.2.2)) | none=>T.get i
  | [],T,_,i=>rfl
  | (k,a,o) :: r,T,nd,i=>by
    rw [List.map_cons,List.nodup_cons] at nd
    show (setUpd (T.set k o) r).get i=_
    rw [setUpd_get r (T.set k o) nd.2 i,LT.get_set]
    by_cases h:i=k
    · subst h
      have:r.find? (fun x=>x.1 == i)=none:=by
        rw [List.find?_eq_none]
        intro x hx hq
        exact nd.1 (by have hq' : x.1=i:=beq_iff_eq.mp hq; rw [← hq']; exact List.mem_map.mpr ⟨x,hx,rfl⟩)
      rw [this,List.find?_cons]
      simp
    · rw [if_neg h,List.find?_cons]
      have:((k == i):Bool)=false:=by simp [Ne.symm h]
      simp [this]
theorem upd_eq : ∀ (u:List (Nat × Addr × Obj)) (T:LT),updA u=updB T u → ∀ x∈u,∃ o,T.get x.1=some (x.2.1,o)
  | [],_,_,_,h=>nomatch h
  | (i,a,o) :: r,T,e,x,hx=>by
    have e' : a :: updA r=addrAt T i a :: updB T r:=e
    obtain ⟨h1,h2⟩:=List.cons.inj e'
    rcases List.mem_cons.mp hx with rfl | hx
    · unfold addrAt at h1
      split at h1
      · rename_i b o' q; exact ⟨o',by rw [h1]; exact q⟩
      · exact absurd h1 (Nat.ne_of_lt (Nat.lt_succ_self a))
    · exact upd_eq r T h2 x hx
section
variable {V:Cfg} {s s' : Shared} {T:LT} {m base off tk gb:Nat} {gl:List GenState}
theorem Rep.cut1 (R:Rep V s T m base off tk gb gl) {e:Eff} (X:EffOk e s s') (hu:updA e.upd=updB T e.upd) (hb : ∀ x∈gl,x.bare=true) :
    Rep V s' (setUpd T e.upd) m e.base 0 e.tk e.gb []:=by
  have ue:=upd_eq e.upd T hu
  have sg:=setUpd_get e.upd T X.updi
  have back : ∀ i a o,(setUpd T e.upd).get i=some (a,o) → ∃ o',T.get i=some (a,o'):=by
    intro i a o h
    rw [sg] at h
    split at h
    · rename_i x q
      cases t:T.get i with
      | none=>rw [t] at h; cases h
      | some y=>rw [t] at h; cases h; exact ⟨y.2,rfl⟩
    · exact ⟨o,h⟩
  have hsz:=R.size
  refine ⟨by rw [X.size,Nat.add_zero], ?_, ?_, ?_, ?_, ?_, ?_, ?_,X.toks,⟨s'.gens,X.gens,by simp,X.bare (R.gensBare hb)⟩,X.drawn.trans R.drawn,X.os.trans R.os⟩
  · intro i a o h
    obtain ⟨o',h'⟩:=back i a o h
    refine ⟨(R.at' i a o' h').1, ?_⟩
    rw [sg] at h
    split at h
    · rename_i x q
      have hx:=List.mem_of_find?_eq_some q
      have hi:x.1=i:=by simpa using List.find?_some q
      obtain ⟨o₂,h₂⟩:=ue x hx
      rw [hi,h'] at h₂
      cases h₂
      rw [h'] at h
      cases h
      exact X.upd x hx
    · rename_i q
      rw [h'] at h
      cases h
      refine X.keep a o (R.at' i a o h').2 fun x hx hxa => ?_
      obtain ⟨o₂,h₂⟩:=ue x hx
      rw [hxa] at h₂
      by_cases hi:x.1=i
      · exact absurd (List.find?_eq_none.mp q x hx) (by simp [hi])
      · exact R.ne x.1 i a a o₂ o h₂ h' hi rfl
  · intro i j a b o₁ o₂ e₁ e₂ hij
    obtain ⟨_,h1⟩:=back i a o₁ e₁
    obtain ⟨_,h2⟩:=back j b o₂ e₂
    exact R.ne i j a b _ _ h1 h2 hij
  · intro a o h
    refine X.keep a o (R.old a o h) fun x hx hxa => ?_
    obtain ⟨o₂,h₂⟩:=ue x hx
    have:=R.ap x.1 _ o₂ h₂
    rw [hxa,h] at this; cases this
  · intro i a o h
    obtain ⟨o',h'⟩:=back i a o h
    exact R.ap i a o' h'
  · intro i a o h
    obtain ⟨o',h'⟩:=back i a o h
    exact R.fr i a o' h'
  · intro b o h hb'
    refine X.keep b o (R.keep b o h hb') fun x hx hxa => ?_
    obtain ⟨o₂,h₂⟩:=ue x hx
    rcases R.fr x.1 _ o₂ h₂ with q | q
    · exact hb' (hxa ▸ q)
    · rw [hxa,h] at q; cases q
  · have:=R.le; have:=X.le; lia
theorem Rep.add {base₀ : Nat} (hb:V.h₀.objs.size≤base₀) : ∀ (new:List (Addr × Obj)) {T:LT} {m:Nat} {T' : LT} {m' : Nat},Rep V s T m base off tk gb gl→addNew T m new=some (T',m') →
    (∀ x∈new,s.heap.get? x.1=some x.2∧base₀ ≤ x.1)→(new.map (·.1)).Nodup→(∀ i a o,T.get i=some (a,o) → ∀ x∈new,a≠x.1)→(∀ a o,V.kt.get a=some o→a<base₀)→Rep V s T' m' base off tk gb gl
  | [],T,m,T',m',R,h,_,_,_,_=>by cases h; exact R
  | (a,o) :: r,T,m,T',m',R,h,hn,nd,hap,hk=>by
    unfold addNew at h
    split at h
    · rename_i q
      have ins:=LT.get_ins a o T m (by rw [q]; rfl)
      rw [List.map_cons,List.nodup_cons] at nd
      obtain ⟨ga,la⟩:=hn (a,o) (.head _)
      refine Rep.add hb r (T:=T.ins m a o) (m:=m+1) ?_ h (fun x hx=>hn x (.tail _ hx)) nd.2 ?_ hk
      · refine ⟨R.size, ?_, ?_,R.old, ?_, ?_,R.keep,R.le,R.toks,R.gens,R.drawn,R.os⟩
        · intro i b o' e
          rw [ins] at e
          by_cases hi:i=m
          · rw [if_pos hi] at e; cases e; exact ⟨by lia,ga⟩
          · rw [if_neg hi] at e; have z:=R.at' i b o' e; exact ⟨by lia,z.2⟩
        · intro i j b d o₁ o₂ e₁ e₂ hij
          rw [ins] at e₁ e₂
          by_cases hi:i=m
          · by_cases hj:j=m
            · exact absurd (hi.trans hj.symm) hij
            · rw [if_pos hi] at e₁; rw [if_neg hj] at e₂; cases e₁
              exact (hap j d o₂ e₂ (a,o) (.head _)).symm
          · rw [if_neg hi] at e₁
            by_cases hj:j=m
            · rw [if_pos hj] at e₂; cases e₂
              exact hap i b o₁ e₁ (a,o) (.head _)
            · rw [if_neg hj] at e₂; exact R.ne i j b d o₁ o₂ e₁ e₂ hij
        · intro i b o' e
          rw [ins] at e
          by_cases hi:i=m
          · rw [if_pos hi] at e; cases e
            cases z:V.kt.get a with
            | none=>rfl
            | some o₂ => exact absurd (hk _ _ z) (Nat.not_lt.mpr la)
          · rw [if_neg hi] at e; exact R.ap i b o' e
        · intro i b o' e
          rw [ins] at e
          by_cases hi:i=m
          · rw [if_pos hi] at e; cases e
            right
            cases z:V.h₀.get? a with
            | none=>rfl
            | some o₂ => exact absurd (Heap.lt_size z) (Nat.not_lt.mpr (Nat.le_trans hb la))
          · rw [if_neg hi] at e; exact R.fr i b o' e
      · intro i b o' e x hx
        rw [ins] at e
        by_cases hi:i=m
        · rw [if_pos hi] at e; cases e
          exact fun z=>nd.1 (List.mem_map.mpr ⟨x,hx,z.symm⟩)
        · rw [if_neg hi] at e; exact hap i b o' e x (.tail _ hx)
    · cases h
theorem Rep.cut (R:Rep V s T m base off tk gb gl) {e:Eff} (X:EffOk e s s') (hu:updA e.upd=updB T e.upd) (hb : ∀ x∈gl,x.bare=true) {T' : LT} {m' : Nat} (h:addNew (setUpd T e.upd) m e.new=some (T',m')) :
    Rep V s' T' m' e.base 0 e.tk e.gb []:=by
  refine Rep.add (base₀ :=s.heap.objs.size) (by rw [R.size]; exact R.le) e.new (R.cut1 X hu hb) h X.new X.nd ?_ fun a o q=>Heap.lt_size (R.old a o q)
  intro i a o q x hx
  have sg:=setUpd_get e.upd T X.updi
  have : ∃ o',T.get i=some (a,o'):=by
    rw [sg] at q
    split at q
    · cases t:T.get i with
      | none=>rw [t] at q; cases q
      | some y=>rw [t] at q; cases q; exact ⟨y.2,rfl⟩
    · exact ⟨o,q⟩
  obtain ⟨o',h'⟩:=this
  have l1:=Heap.lt_size (R.at' i a o' h').2
  have l2:=(X.new x hx).2
  exact Nat.ne_of_lt (Nat.lt_of_lt_of_le l1 l2)
end
noncomputable def addrs (base:Nat):Nat→List Obj→List (Addr × Obj)
  | _,[]=>[]
  | off,o :: r=>(base+off,o) :: addrs base (off+1) r
theorem addAl_new (base:Nat) : ∀ (al:List Obj) {T:LT} {m off:Nat} {T' : LT} {m' off' : Nat},addAl T m base off al=some (T',m',off')→addNew T m (addrs base off al)=some (T',m')∧off' = off+al.length
  | [],T,m,off,T',m',off',h=>by cases h; exact ⟨rfl,rfl⟩
  | o :: r,T,m,off,T',m',off',h=>by
    unfold addAl at h
    split at h
    · rename_i x q
      obtain ⟨h1,h2⟩:=addAl_new base r h
      refine ⟨?_,by rw [h2,List.length_cons]; lia⟩
      show (match (T.ins m (base+off) o).get m with | some _=>addNew _ _ _ | none=>none)=_
      rw [q]; exact h1
    · cases h
theorem addrs_mem (base:Nat) : ∀ (al:List Obj) (off:Nat) (x:Addr × Obj),x∈addrs base off al → ∃ i,al[i]? = some x.2∧x.1=base+off+i
  | [],_,_,h=>nomatch h
  | o :: r,off,x,h=>by
    rcases List.mem_cons.mp h with q | q
    · exact ⟨0,by rw [q]; rfl,by rw [q]; rfl⟩
    · obtain ⟨i,h1,h2⟩:=addrs_mem base r (off+1) x q
      exact ⟨i+1,h1,h2.trans (show (base+(off+1)+i:Nat)=base+off+(i+1) by lia)⟩
theorem addrs_nd (base:Nat) : ∀ (al:List Obj) (off:Nat),((addrs base off al).map (fun x:Addr × Obj=>x.1)).Nodup
  | [],_=>List.nodup_nil
  | o :: r,off=>by
    show List.Nodup (((base+off:Nat)) :: (addrs base (off+1) r).map (fun x:Addr × Obj=>x.1))
    rw [List.nodup_cons]
    refine ⟨fun h => ?_,addrs_nd base r (off+1)⟩
    obtain ⟨x,hx,e⟩:=List.mem_map.mp h
    obtain ⟨i,_,h2⟩:=addrs_mem base r (off+1) x hx
    have e' : (base+(off+1)+i:Nat)=base+off:=h2.symm.trans e
    lia
theorem Rep.det {V:Cfg} {s s' : Shared} {T:LT} {m base off tk gb:Nat} {gl:List GenState} (R:Rep V s T m base off tk gb gl) {x:DetR} (X:DEff x (base+off) s s') (hu:updA x.upd=updB T x.upd) {T' : LT} {m' off' : Nat}
    (h:addAl (setUpd T x.upd) m base off x.al=some (T',m',off')):Rep V s' T' m' base off' x.tk gb gl:=by
  obtain ⟨h1,h2⟩:=addAl_new base x.al h
  have R0:Rep V {s with gens:= #[]} T m base off tk 0 []:=⟨R.size,R.at',R.ne,R.old,R.ap,R.fr,R.keep,R.le,R.toks,⟨#[],rfl,rfl,fun _ h=>(Array.not_mem_empty _ h).elim⟩,R.drawn,R.os⟩
  have Z:EffOk ⟨x.r,x.upd,addrs base off x.al,base+off',x.tk,0⟩ {s with gens:= #[]} {s' with gens:= #[]}:=by
    refine ⟨?_, ?_,X.upd, ?_,addrs_nd _ _ _,X.updi,X.keep,X.toks,rfl,fun _ _ h=>(Array.not_mem_empty _ h).elim,X.drawn,X.os⟩
    · show s'.heap.objs.size=base+off'
      rw [X.size,h2]; lia
    · show s.heap.objs.size≤base+off'
      rw [R.size,h2]; lia
    · intro y hy
      obtain ⟨i,q1,q2⟩:=addrs_mem _ _ _ y hy
      refine ⟨?_, ?_⟩
      · show s'.heap.get? y.1=_
        rw [q2]; exact X.new i _ q1
      · show s.heap.objs.size≤y.1
        rw [R.size,q2]; lia
  have R1:=R0.cut Z hu (fun _ h=>nomatch h) h1
  refine ⟨?_,R1.at',R1.ne,R1.old,R1.ap,R1.fr,R1.keep, ?_,R1.toks, ?_,R1.drawn,R1.os⟩
  · show s'.heap.objs.size=_
    rw [X.size,h2]; lia
  · exact R1.le
  · rw [X.gens]; exact R.gens
noncomputable abbrev IHS (V:Cfg) (ih:SimT):Prop:= ∀ N T m base off tk gb gl EA EB CS TA TB c p st t s O Q,OutOk V Q (ih N T m base off tk gb gl EA EB CS TA TB c p st t)→Rep V s T m base off tk gb gl→OuterOk V O→FinA V.M s ⟨t,c,p,st++O⟩ O Q
section
variable {V:Cfg} (H:V.Ok) {ih:SimT} (E:IHE V ih) (I:IHS V ih) {N:Nat} {T:LT} {m base off tk gb:Nat} {gl:List GenState} {EA EB:List Addr} {CS:List Prop} {TA TB:List (Sem Fin)} {c:Code} {p:Pos} {st:List Frame} {t:Sem Fin} {Q:Result ⊕ Code→Shared→Prop} {s:Shared} {O:List Frame}
include E I
theorem retS (H:V.Ok) {k:Result→Sem Fin} {r:Result} (h:OutOk V Q (retM V ih k r N T m base off tk gb gl EA EB CS TA TB c p st t)) (R:Rep V s T m base off tk gb gl) (hO:OuterOk V O):FinA V.M s ⟨k r,c,p,st++O⟩ O Q:=by
  unfold retM at h
  cases r with
  | error e=>exact I _ _ _ _ _ _ _ _ _ _ _ _ _ _ _ _ _ _ _ _ h R hO
  | ok fl =>
    cases fl with
    | ret v =>
      cases v with
      | bool b =>
        dsimp only at h
        split at h
        · exact I _ _ _ _ _ _ _ _ _ _ _ _ _ _ _ _ _ _ _ _ h R hO
        · split at h
          · have e:b=true:=(E _ _ _ _ _ _ _ _ _ _ _ _ _ _ _ _ _ _ h).2.2 _ (.head _)
            rw [e]; exact I _ _ _ _ _ _ _ _ _ _ _ _ _ _ _ _ _ _ _ _ h R hO
          · have e:b=false:=(E _ _ _ _ _ _ _ _ _ _ _ _ _ _ _ _ _ _ h).2.2 _ (.head _)
            rw [e]; exact I _ _ _ _ _ _ _ _ _ _ _ _ _ _ _ _ _ _ _ _ h R hO
      | int x q =>
        dsimp only at h
        split at h
        · exact I _ _ _ _ _ _ _ _ _ _ _ _ _ _ _ _ _ _ _ _ h R hO
        · split at h
          · split at h
            · rename_i y _
              have e:x=y:=(E _ _ _ _ _ _ _ _ _ _ _ _ _ _ _ _ _ _ h).2.2 _ (.head _)
              rw [e]; exact I _ _ _ _ _ _ _ _ _ _ _ _ _ _ _ _ _ _ _ _ h R hO
            · cases h
          · split at h
            · rename_i al ha
              have e:k (.ok (.ret (.int x q)))=al.1:=(List.cons.inj (E _ _ _ _ _ _ _ _ _ _ _ _ _ _ _ _ _ _ h).2.1).1
              rw [e,H.alts al (List.mem_of_getElem? ha)]; exact I _ _ _ _ _ _ _ _ _ _ _ _ _ _ _ _ _ _ _ _ h R hO
            · cases h
      | str x q =>
        dsimp only at h
        split at h
        · exact I _ _ _ _ _ _ _ _ _ _ _ _ _ _ _ _ _ _ _ _ h R hO
        · split at h
          · rename_i y _
            have e:x=y:=(E _ _ _ _ _ _ _ _ _ _ _ _ _ _ _ _ _ _ h).2.2 _ (.head _)
            rw [e]; exact I _ _ _ _ _ _ _ _ _ _ _ _ _ _ _ _ _ _ _ _ h R hO
          · cases h
      | _=>exact I _ _ _ _ _ _ _ _ _ _ _ _ _ _ _ _ _ _ _ _ h R hO
    | _=>exact I _ _ _ _ _ _ _ _ _ _ _ _ _ _ _ _ _ _ _ _ h R hO
theorem popS (H:V.Ok) {r:Result} (h:OutOk V Q (popM V ih r N T m base off tk gb gl EA EB CS TA TB c p st t)) (R:Rep V s T m base off tk gb gl) (hO:OuterOk V O):FinA V.M s ⟨leafOf r,c,p,st++O⟩ O Q:=by
  simp only [popM,genIx_eq] at h
  cases st with
  | nil=>exact ⟨s,c,p, .inl ⟨r, .refl _ _,h.2.2.2 s (pst_of R _) R.gensSize R.gensBare⟩⟩
  | cons f st =>
    cases f with
    | ret k hd g l c₁ p₁ kp =>
      refine FinA.step (step_leaf_ret ..) ?_
      exact retS E I H h R hO
    | gen g k l c₁ p₁ =>
      dsimp only at h
      refine FinA.step (step_leaf_gen ..) ?_
      split at h
      · obtain ⟨e,_⟩:=eq_tail E h
        rw [e]
        exact I _ _ _ _ _ _ _ _ _ _ _ _ _ _ _ _ _ _ _ _ h (R.setGen _ _) hO
      · cases h
theorem loadS (H:V.Ok) {a:Addr} {q:Option Value} {k:Obj→Sem Fin} (h:OutOk V Q (loadM V ih a k N T m base off tk gb gl EA EB CS TA TB c p st t)) (R:Rep V s T m base off tk gb gl) (hO:OuterOk V O):FinA V.M s ⟨.load a q k,c,p,st++O⟩ O Q:=by
  unfold loadM at h
  split at h
  · split at h
    · rename_i o ho
      exact FinA.step (step_load _ _ _ _ _ _ _ (R.old a o ho)) (I _ _ _ _ _ _ _ _ _ _ _ _ _ _ _ _ _ _ _ _ h R hO)
    · cases h
  · split at h
    · split at h
      · rename_i b o ho
        obtain ⟨e,_⟩:=eq_tail E h
        subst e
        exact FinA.step (step_load _ _ _ _ _ _ _ (R.at' _ _ _ ho).2) (I _ _ _ _ _ _ _ _ _ _ _ _ _ _ _ _ _ _ _ _ h R hO)
      · cases h
    · split at h
      · cases h
      · rename_i al ha
        split at h
        · cases h
        · split at h
          · rename_i b o ho
            obtain ⟨h1,h2,h3⟩:=E _ _ _ _ _ _ _ _ _ _ _ _ _ _ _ _ _ _ h
            have e:=(List.cons.inj h1).1
            subst e
            have e2:k o=al.1:=(List.cons.inj h2).1
            refine FinA.step (step_load _ _ _ _ _ _ _ (R.at' _ _ _ ho).2) ?_
            rw [e2,H.alts al (List.mem_of_getElem? ha)]
            exact I _ _ _ _ _ _ _ _ _ _ _ _ _ _ _ _ _ _ _ _ h R hO
          · cases h
include H
theorem redirS {e:Expr} {d:Nat} {it acc:Value} {env:Env} (h:OutOk V Q (redirM V ih e d it acc env N T m base off tk gb gl EA EB CS TA TB c p st t)) (R:Rep V s T m base off tk gb gl) (hO:OuterOk V O) (p₀ : Pos) :
    FinA V.M s ⟨V.M.den (.compStart e d it acc env), .compStart e d it acc env,p₀,st++O⟩ O Q:=by
  unfold redirM at h
  cases it with
  | ref a =>
    dsimp only at h
    split at h
    · cases h
    · split at h
      · cases h
      · rename_i b o q
        split at h
        · cases h
        · rename_i hs
          split at h
          · cases h
          · rename_i hy
            split at h
            · rename_i qp k hk
              obtain ⟨hab,_⟩:=eq_tail E h
              have ho:=(R.at' _ _ _ q).2
              rw [← hab] at ho
              obtain ⟨p',hc⟩:=comp_redirect (prog:=V.prog) (w:=V.w) (acc:=acc) (env:=env) ho hs hy p₀ (st++O)
              refine FinA.comes hc ?_
              rw [H.den] at hk
              rw [hk]
              exact FinA.step (step_at ..) (I _ _ _ _ _ _ _ _ _ _ _ _ _ _ _ _ _ _ _ _ h R hO)
            · cases h
  | _=>cases h
theorem callHS {c' : Code} {g:Bool} {l:List Value} {k:Result→Sem Fin} (h:OutOk V Q (callH V ih c' g l k N T m base off tk gb gl EA EB CS TA TB c p st t)) (R:Rep V s T m base off tk gb gl) (hO:OuterOk V O) :
    FinA V.M s ⟨V.M.den c',c',p, .ret k none g l c p [] :: st++O⟩ O Q:=by
  unfold callH at h
  split at h
  · rw [H.den] at h
    exact I _ _ _ _ _ _ _ _ _ _ _ _ _ _ _ _ _ _ _ _ h R hO
  · split at h
    · split at h
      · cases h
      · rename_i x hx
        split at h
        · cases h
        rename_i hroom
        split at h
        · cases h
        · rename_i T' m' off' ha
          have hE:=retE E h
          have hc : ∀ c∈x.cond,c:=fun c hc=>hE.2.2 c (List.mem_append_left _ hc)
          have hrm:x.room=true→unitsOf ((c,p) :: (st++O).map Frame.where_)<9000:=by
            intro hr
            rw [hr] at hroom
            have:=Nat.le_of_ble_eq_true (show Nat.blt _ _=true from hroom)
            rw [List.map_append,hO.where_]
            exact this
          have hu:=(upd_split (eqs_split hE.1).2).1
          obtain ⟨s',c₁,p₁,hcm,X⟩:=H.det _ _ _ _ _ _ _ x hx hc (eqs_split hE.1).1 hu s p k g l c (st++O) R.lk R.toks R.size hrm
          refine FinA.comes hcm (FinA.step (step_leaf_ret ..) ?_)
          exact retS E I H h (R.det X hu ha) hO
    · split at h
      · cases h
      · rename_i e he
        split at h
        · cases h
        · rename_i hgl
          split at h
          · rename_i hmk
            have hb : ∀ x∈gl,x.bare=true:=List.all_eq_true.mp hgl
            have tops:(topHandled (st++O),topHandled.go true (st++O))=(none,none):=by
              rw [marks_append,hO.top,hO.past,hmk]
            obtain ⟨_,_,_,h⟩:=h
            obtain ⟨y,s',⟨c₁,p₁,hcm⟩,X,h⟩:=h s p k g l c (st++O) ⟨e,H.exs e (List.mem_of_getElem? he),pst_of R e⟩ (R.gensBare hb) (by rw [R.gensSize]; lia)
              (by rw [List.map_append,hO.where_]) (Prod.mk.inj tops).1 (Prod.mk.inj tops).2
            refine FinA.comes hcm (FinA.step (step_leaf_ret ..) ?_)
            dsimp only at h
            split at h
            · cases h
            · rename_i T' m' ha
              obtain ⟨hu,_⟩:=E _ _ _ _ _ _ _ _ _ _ _ _ _ _ _ _ _ _ h
              exact I _ _ _ _ _ _ _ _ _ _ _ _ _ _ _ _ _ _ _ _ h (R.cut X hu hb ha) hO
          · cases h
theorem callS {c' : Code} {g:Bool} {l:List Value} {k:Result→Sem Fin} (h:OutOk V Q (callM V ih c' g l k N T m base off tk gb gl EA EB CS TA TB c p st t)) (R:Rep V s T m base off tk gb gl) (hO:OuterOk V O) :
    FinA V.M s ⟨V.M.den c',c',p, .ret k none g l c p [] :: st++O⟩ O Q:=by
  unfold callM at h
  cases c' with
  | compStart =>
    dsimp only at h
    split at h
    · exact callHS H E I h R hO
    · exact redirS H E I h R hO p
  | _=>exact callHS H E I h R hO
theorem wakeS {c₀ : Code} (h:OutOk V Q (wakeM V ih c₀ N T m base off tk gb gl EA EB CS TA TB c p st t)) (R:Rep V s T m base off tk gb gl) (hO:OuterOk V O) :
    FinA V.M s ⟨V.M.den c₀,c₀,p,st++O⟩ O Q:=by
  unfold wakeM at h
  cases c₀ with
  | compStart=>exact redirS H E I h R hO p
  | _=>dsimp only at h; rw [H.den] at h; exact I _ _ _ _ _ _ _ _ _ _ _ _ _ _ _ _ _ _ _ _ h R hO
theorem stepS (h:OutOk V Q (stepM V ih N T m base off tk gb gl EA EB CS TA TB c p st t)) (R:Rep V s T m base off tk gb gl) (hO:OuterOk V O):FinA V.M s ⟨t,c,p,st++O⟩ O Q:=by
  cases t with
  | pure fin =>
    cases fin with
    | done f=>exact popS E I H (r:= .ok f) (c:=c) (p:=p) (t:= .pure (.done f)) h R hO
    | again c' =>
      simp only [stepM,genIx_eq] at h
      split at h
      · rename_i hq
        split at h
        · split at h
          · rw [H.den] at h
            exact FinA.step (step_again _ _ _ _ _ _ hq) (I _ _ _ _ _ _ _ _ _ _ _ _ _ _ _ [] _ _ _ _ h R hO)
          · exact FinA.step (step_again _ _ _ _ _ _ hq) ⟨s,c',p, .inr ⟨c',rfl, .refl _ _,h.2.2.2 s (pst_of R _) R.gensSize R.gensBare⟩⟩
        · split at h
          · rw [H.den] at h
            exact FinA.step (step_again _ _ _ _ _ _ hq) (I _ _ _ _ _ _ _ _ _ _ _ _ _ _ _ _ _ _ _ _ h R hO)
          · split at h
            · cases h
            · rename_i x hx
              split at h
              · cases h
              · rename_i T' m' off' ha
                have hE:=popE E h
                have hc : ∀ c∈x.cond,c:=fun c hc=>hE.2.2 c (List.mem_append_left _ hc)
                have hu:=(upd_split (eqs_split hE.1).2).1
                obtain ⟨s',c₁,p₁,hcm,X⟩:=H.dag _ _ _ _ _ _ _ x hx hc (eqs_split hE.1).1 hu s p _ R.lk R.toks R.size
                refine FinA.step (step_again _ _ _ _ _ _ hq) (FinA.comes hcm ?_)
                refine popS E I H (p:=p₁) (c:=c₁) (t:= .pure (.again c')) (r:=x.r) (N:=Nat.div N 1073741824) (EA:=List.map Prod.fst x.eqs++(updA x.upd++EA)) (EB:=List.map Prod.snd x.eqs++(updB T x.upd++EB)) (CS:=x.cond++CS) (TA:=TA) (TB:=TB) ?_ (R.det X hu ha) hO
                exact h
      · cases h
  | raise e=>exact popS E I H (r:= .error e) (c:=c) (p:=p) (t:= .raise e) h R hO
  | rule tag k=>exact FinA.step (step_rule ..) (I _ _ _ _ _ _ _ _ _ _ _ _ _ _ _ _ _ _ _ _ h R hO)
  | «at» q k=>exact FinA.step (step_at ..) (I _ _ _ _ _ _ _ _ _ _ _ _ _ _ _ _ _ _ _ _ h R hO)
  | point l k=>exact FinA.step (step_point ..) (I _ _ _ _ _ _ _ _ _ _ _ _ _ _ _ _ _ _ _ _ h R hO)
  | ask k =>
    simp only [stepM,genIx_eq] at h
    split at h
    · rw [H.par] at h
      exact FinA.step (step_ask ..) (I _ _ _ _ _ _ _ _ _ _ _ _ _ _ _ _ _ _ _ _ h R hO)
    · have e:=(List.cons.inj (E _ _ _ _ _ _ _ _ _ _ _ _ _ _ _ _ _ _ h).2.1).1
      refine FinA.step (step_ask ..) ?_
      have key:k ⟨V.M.prog,V.M.w.params⟩=k ⟨V.prog,V.parT⟩:=by
        rcases H.parTF with q | q
        · show k ⟨V.prog,V.w.params⟩=_; rw [q]
        · show k ⟨V.prog,V.w.params⟩=_; rw [q]; exact e.symm
      rw [key]
      exact (I _ _ _ _ _ _ _ _ _ _ _ _ _ _ _ _ _ _ _ _ h R hO)
  | load a q k=>exact loadS E I H (t:= .load a q k) h R hO
  | loadIfAlive a k =>
    simp only [stepM,genIx_eq] at h
    split at h
    · split at h
      · rename_i o ho
        refine FinA.step (step_loadIfAlive ..) ?_
        rw [R.old a o ho]
        exact I _ _ _ _ _ _ _ _ _ _ _ _ _ _ _ _ _ _ _ _ h R hO
      · cases h
    · split at h
      · rename_i b o ho
        obtain ⟨e,_⟩:=eq_tail E h
        subst e
        refine FinA.step (step_loadIfAlive ..) ?_
        rw [(R.at' _ _ _ ho).2]
        exact I _ _ _ _ _ _ _ _ _ _ _ _ _ _ _ _ _ _ _ _ h R hO
      · cases h
  | update a q f k =>
    simp only [stepM,genIx_eq] at h
    split at h
    · cases h
    · split at h
      · rename_i b o ho
        split at h
        · cases h
        · rename_i hf
          obtain ⟨e,_⟩:=eq_tail E h
          subst e
          exact FinA.step (step_update _ _ _ _ _ _ _ _ (by rw [(R.at' _ _ _ ho).2]; rfl)) (I _ _ _ _ _ _ _ _ _ _ _ _ _ _ _ _ _ _ _ _ h (R.update ho hf) hO)
      · cases h
  | alloc o k =>
    simp only [stepM,genIx_eq] at h
    split at h
    · cases h
    · rename_i hf
      split at h
      · rename_i q
        refine FinA.step (step_alloc ..) ?_
        rw [R.size]
        exact I _ _ _ _ _ _ _ _ _ _ _ _ _ _ _ _ _ _ _ _ h (R.alloc hf (by rw [q]; rfl)) hO
      · cases h
  | fresh k =>
    refine FinA.step (step_fresh ..) ?_
    rw [R.toks]
    have R' :=R.fresh
    rw [R.toks] at R'
    exact I _ _ _ _ _ _ _ _ _ _ _ _ _ _ _ _ _ _ _ _ h R' hO
  | handled own k =>
    cases own with
    | false =>
      refine FinA.step (step_handled ..) ?_
      have e:topHandled (if false=true then ownFrames (st++O) else st++O)=(marksOver st (none,none)).1:=by
        rw [if_neg Bool.false_ne_true,topHandled_append,hO.top,hO.past]
      rw [e]
      exact I _ _ _ _ _ _ _ _ _ _ _ _ _ _ _ _ _ _ _ _ h R hO
    | true=>cases h
  | stack k =>
    simp only [stepM,genIx_eq] at h
    split at h
    · refine FinA.step (step_stack ..) ?_
      rw [List.map_append,hO.where_]
      exact I _ _ _ _ _ _ _ _ _ _ _ _ _ _ _ _ _ _ _ _ h R hO
    · split at h
      · rename_i al ha
        refine FinA.step (step_stack ..) ?_
        rw [List.map_append,hO.where_]
        have e:=(List.cons.inj (E _ _ _ _ _ _ _ _ _ _ _ _ _ _ _ _ _ _ h).2.1).1
        rw [e,H.alts al (List.mem_of_getElem? ha)]
        exact I _ _ _ _ _ _ _ _ _ _ _ _ _ _ _ _ _ _ _ _ h R hO
      · cases h
  | call c' hd g l k =>
    cases hd with
    | none=>exact FinA.step (step_call ..) (callS H E I h R hO)
    | some _=>cases h
  | newGen c' k =>
    refine FinA.step (step_newGen ..) ?_
    rw [R.gensSize]
    exact I _ _ _ _ _ _ _ _ _ _ _ _ _ _ _ _ _ _ _ _ h (R.newGen c') hO
  | genState g k =>
    simp only [stepM,genIx_eq] at h
    split at h
    · rename_i x hx
      obtain ⟨e,_⟩:=eq_tail E h
      subst e
      exact FinA.step (step_genState _ _ _ _ _ _ (R.genAt hx)) (I _ _ _ _ _ _ _ _ _ _ _ _ _ _ _ _ _ _ _ _ h R hO)
    · cases h
  | resume g r l k =>
    simp only [stepM,genIx_eq] at h
    split at h
    · rename_i x hx
      split at h
      · rename_i c₀
        split at h
        · split at h
          · have hE:g=gb+Nat.mod N 1024:=by
              have z:=wakeE E h
              exact (List.cons.inj z.1).1
            subst hE
            exact FinA.step (step_resume_fresh _ _ _ _ _ _ _ (R.genAt hx)) (wakeS H E I (st:= .gen _ k l c p :: st) h (R.setGen _ _) hO)
          · cases h
        · cases h
      · obtain ⟨e,_⟩:=eq_tail E h
        subst e
        refine FinA.step (step_resume_suspended _ _ _ _ _ _ _ _ (R.genAt hx)) ?_
        have z:=I _ _ _ _ _ _ _ _ _ _ _ _ _ _ _ _ _ _ _ _ h (R.setGen _ _) hO
        rw [List.append_assoc] at z
        exact z
      · cases h
      · cases h
    · cases h
  | yield v gd l k =>
    simp only [stepM,genIx_eq] at h
    split at h
    · cases h
    · split at h
      · cases h
      · rename_i hs
        split at h
        · cases h
        · rename_i hg
          split at h
          · obtain ⟨e,_⟩:=eq_tail E h
            subst e
            refine FinA.step (step_yield _ _ _ _ _ _ _ _ _ (splitAppend hs) (by simp [End.quiet,hg])) ?_
            have e2 : ∀ fs:List Frame,fs.any Frame.guarded=false→(End.susp v false l k c p fs).genState = .suspended k l c p fs false:=by
              intro fs q; simp [End.genState,q]
            rw [e2 _ hg]
            exact I _ _ _ _ _ _ _ _ _ _ _ _ _ _ _ _ _ _ _ _ h (R.setGen _ _) hO
          · cases h
  | _=>cases h
end
theorem simS (V:Cfg) (H:V.Ok) : ∀ n,IHS V (simM V n)
  | 0=>fun _ _ _ _ _ _ _ _ _ _ _ _ _ _ _ _ _ _ _ _ h=>by cases h
  | n+1=>fun _ _ _ _ _ _ _ _ _ _ _ _ _ _ _ _ _ _ _ _ h R hO=>stepS H (simE V n) (simS V H n) h R hO
end Mine
end
section
open PySem PySem.W PySem.W.X
namespace Mine
noncomputable abbrev pw:Program:=PySem.Challenge.pw_xr0006_02
noncomputable def stmtAt (i:Nat) (j:Option Nat):Option Stmt:=match pw.main.body[i]? with
  | some s=>match j with
    | none=>some s
    | some j=>match s with
      | .ClassDef _ _ _ cb _ _ _ _ _ _ _=>cb[j]?
      | _=>none
  | none=>none
structure FD where
  a:Arguments
  b:List Stmt
  s:Scope
noncomputable def fdOf:Option Stmt→FD
  | some (.FunctionDef _ a b _ _ _ s _ _ _)=>⟨a,b,s⟩
  | _=>⟨default,[],default⟩
noncomputable def defAt (i:Nat) (j:Option Nat):FD:=fdOf (stmtAt i j)
noncomputable def fnD (d:FD) (name qual:Str) (gl:Addr) (cl:List (Str × Addr)) (dfl kw doc pm:Value) (an:Option Addr) (code ct:Value) (bu:Addr):FuncData:=
  {name,qualname:=qual,params:=d.a,body:= .stmts d.b,scope:=d.s,globals:=gl,closure:=cl,defaults:=dfl,kwdefaults:=kw,doc,pyModule:=pm,annotations:=an,code,closureTuple:=ct,builtins:=bu}
noncomputable def st (s:List Nat) (t:Nat):Value:= .str ⟨⟨s⟩⟩ t
noncomputable def de (P:Params) (s:List Nat) (t:Nat) (v:Value):DictEntry:=⟨PyData.keyHash P ⟨⟨s⟩⟩, .str ⟨⟨s⟩⟩ t,v⟩
noncomputable def o0 (P:Params):Obj:=⟨.type "dict",none,.dict #[de P [95,95,110,97,109,101,95,95] 1 (st [98,117,105,108,116,105,110,115] 160),de P [95,95,100,111,99,95,95] 2 (.builtin "builtins.__doc__:str#opaque"),de P [95,95,112,97,99,107,97,103,101,95,95] 3 (.builtin "builtins.__package__:str#opaque"),de P [95,95,108,111,97,100,101,114,95,95] 4 (.builtin "builtins.__loader__:shared#opaque"),de P [95,95,115,112,101,99,95,95] 5 (.builtin "builtins.__spec__#opaque"),de P [95,95,98,117,105,108,100,95,99,108,97,115,115,95,95] 6 (.builtin "__build_class__"),de P [95,95,105,109,112,111,114,116,95,95] 7 (.builtin "__import__"),de P [97,98,115] 8 (.builtin "abs"),de P [97,108,108] 9 (.builtin "all"),de P [97,110,121] 10 (.builtin "any"),de P [97,115,99,105,105] 11 (.builtin "ascii"),de P [98,105,110] 12 (.builtin "bin"),de P [98,114,101,97,107,112,111,105,110,116] 13 (.builtin "breakpoint"),de P [99,97,108,108,97,98,108,101] 14 (.builtin "callable"),de P [99,104,114] 15 (.builtin "chr"),de P [99,111,109,112,105,108,101] 16 (.builtin "compile"),de P [100,101,108,97,116,116,114] 17 (.builtin "delattr"),de P [100,105,114] 18 (.builtin "dir"),de P [100,105,118,109,111,100] 19 (.builtin "divmod"),de P [101,118,97,108] 20 (.builtin "eval"),de P [101,120,101,99] 21 (.builtin "exec"),de P [102,111,114,109,97,116] 22 (.builtin "format"),de P [103,101,116,97,116,116,114] 23 (.builtin "getattr"),de P [103,108,111,98,97,108,115] 24 (.builtin "globals"),de P [104,97,115,97,116,116,114] 25 (.builtin "hasattr"),de P [104,97,115,104] 26 (.builtin "hash"),de P [104,101,120] 27 (.builtin "hex"),de P [105,100] 28 (.builtin "id"),de P [105,110,112,117,116] 29 (.builtin "input"),de P [105,115,105,110,115,116,97,110,99,101] 30 (.builtin "isinstance"),de P [105,115,115,117,98,99,108,97,115,115] 31 (.builtin "issubclass"),de P [105,116,101,114] 32 (.builtin "iter"),de P [97,105,116,101,114] 33 (.builtin "aiter"),de P [108,101,110] 34 (.builtin "len"),de P [108,111,99,97,108,115] 35 (.builtin "locals"),de P [109,97,120] 36 (.builtin "max"),de P [109,105,110] 37 (.builtin "min"),de P [110,101,120,116] 38 (.builtin "next"),de P [97,110,101,120,116] 39 (.builtin "anext"),de P [111,99,116] 40 (.builtin "oct"),de P [111,114,100] 41 (.builtin "ord"),de P [112,111,119] 42 (.builtin "pow"),de P [112,114,105,110,116] 43 (.builtin "print"),de P [114,101,112,114] 44 (.builtin "repr"),de P [114,111,117,110,100] 45 (.builtin "round"),de P [115,101,116,97,116,116,114] 46 (.builtin "setattr"),de P [115,111,114,116,101,100] 47 (.builtin "sorted"),de P [115,117,109] 48 (.builtin "sum"),de P [118,97,114,115] 49 (.builtin "vars"),de P [78,111,110,101] 50 .none,de P [69,108,108,105,112,115,105,115] 51 .ellipsis,de P [78,111,116,73,109,112,108,101,109,101,110,116,101,100] 52 .notImplemented,de P [70,97,108,115,101] 53 (.bool false),de P [84,114,117,101] 54 (.bool true),de P [98,111,111,108] 55 (.type "bool"),de P [109,101,109,111,114,121,118,105,101,119] 56 (.type "memoryview"),de P [98,121,116,101,97,114,114,97,121] 57 (.type "bytearray"),de P [98,121,116,101,115] 58 (.type "bytes"),de P [99,108,97,115,115,109,101,116,104,111,100] 59 (.type "classmethod"),de P [99,111,109,112,108,101,120] 60 (.type "complex"),de P [100,105,99,116] 61 (.type "dict"),de P [101,110,117,109,101,114,97,116,101] 62 (.type "enumerate"),de P [102,105,108,116,101,114] 63 (.type "filter"),de P [102,108,111,97,116] 64 (.type "float"),de P [102,114,111,122,101,110,115,101,116] 65 (.type "frozenset"),de P [112,114,111,112,101,114,116,121] 66 (.type "property"),de P [105,110,116] 67 (.type "int"),de P [108,105,115,116] 68 (.type "list"),de P [109,97,112] 69 (.type "map"),de P [111,98,106,101,99,116] 70 (.type "object"),de P [114,97,110,103,101] 71 (.type "range"),de P [114,101,118,101,114,115,101,100] 72 (.type "reversed"),de P [115,101,116] 73 (.type "set"),de P [115,108,105,99,101] 74 (.type "slice"),de P [115,116,97,116,105,99,109,101,116,104,111,100] 75 (.type "staticmethod"),de P [115,116,114] 76 (.type "str"),de P [115,117,112,101,114] 77 (.type "super"),de P [116,117,112,108,101] 78 (.type "tuple"),de P [116,121,112,101] 79 (.type "type"),de P [122,105,112] 80 (.type "zip"),de P [95,95,100,101,98,117,103,95,95] 81 (.bool true),de P [66,97,115,101,69,120,99,101,112,116,105,111,110] 82 (.type "BaseException"),de P [66,97,115,101,69,120,99,101,112,116,105,111,110,71,114,111,117,112] 83 (.type "BaseExceptionGroup"),de P [69,120,99,101,112,116,105,111,110] 84 (.type "Exception"),de P [71,101,110,101,114,97,116,111,114,69,120,105,116] 85 (.type "GeneratorExit"),de P [75,101,121,98,111,97,114,100,73,110,116,101,114,114,117,112,116] 86 (.type "KeyboardInterrupt"),de P [83,121,115,116,101,109,69,120,105,116] 87 (.type "SystemExit"),de P [65,114,105,116,104,109,101,116,105,99,69,114,114,111,114] 88 (.type "ArithmeticError"),de P [65,115,115,101,114,116,105,111,110,69,114,114,111,114] 89 (.type "AssertionError"),de P [65,116,116,114,105,98,117,116,101,69,114,114,111,114] 90 (.type "AttributeError"),de P [66,117,102,102,101,114,69,114,114,111,114] 91 (.type "BufferError"),de P [69,79,70,69,114,114,111,114] 92 (.type "EOFError"),de P [73,109,112,111,114,116,69,114,114,111,114] 93 (.type "ImportError"),de P [76,111,111,107,117,112,69,114,114,111,114] 94 (.type "LookupError"),de P [77,101,109,111,114,121,69,114,114,111,114] 95 (.type "MemoryError"),de P [78,97,109,101,69,114,114,111,114] 96 (.type "NameError"),de P [79,83,69,114,114,111,114] 97 (.type "OSError"),de P [82,101,102,101,114,101,110,99,101,69,114,114,111,114] 98 (.type "ReferenceError"),de P [82,117,110,116,105,109,101,69,114,114,111,114] 99 (.type "RuntimeError"),de P [83,116,111,112,65,115,121,110,99,73,116,101,114,97,116,105,111,110] 100 (.type "StopAsyncIteration"),de P [83,116,111,112,73,116,101,114,97,116,105,111,110] 101 (.type "StopIteration"),de P [83,121,110,116,97,120,69,114,114,111,114] 102 (.type "SyntaxError"),de P [83,121,115,116,101,109,69,114,114,111,114] 103 (.type "SystemError"),de P [84,121,112,101,69,114,114,111,114] 104 (.type "TypeError"),de P [86,97,108,117,101,69,114,114,111,114] 105 (.type "ValueError"),de P [87,97,114,110,105,110,103] 106 (.type "Warning"),de P [70,108,111,97,116,105,110,103,80,111,105,110,116,69,114,114,111,114] 107 (.type "FloatingPointError"),de P [79,118,101,114,102,108,111,119,69,114,114,111,114] 108 (.type "OverflowError"),de P [90,101,114,111,68,105,118,105,115,105,111,110,69,114,114,111,114] 109 (.type "ZeroDivisionError"),de P [66,121,116,101,115,87,97,114,110,105,110,103] 110 (.type "BytesWarning"),de P [68,101,112,114,101,99,97,116,105,111,110,87,97,114,110,105,110,103] 111 (.type "DeprecationWarning"),de P [69,110,99,111,100,105,110,103,87,97,114,110,105,110,103] 112 (.type "EncodingWarning"),de P [70,117,116,117,114,101,87,97,114,110,105,110,103] 113 (.type "FutureWarning"),de P [73,109,112,111,114,116,87,97,114,110,105,110,103] 114 (.type "ImportWarning"),de P [80,101,110,100,105,110,103,68,101,112,114,101,99,97,116,105,111,110,87,97,114,110,105,110,103] 115 (.type "PendingDeprecationWarning"),de P [82,101,115,111,117,114,99,101,87,97,114,110,105,110,103] 116 (.type "ResourceWarning"),de P [82,117,110,116,105,109,101,87,97,114,110,105,110,103] 117 (.type "RuntimeWarning"),de P [83,121,110,116,97,120,87,97,114,110,105,110,103] 118 (.type "SyntaxWarning"),de P [85,110,105,99,111,100,101,87,97,114,110,105,110,103] 119 (.type "UnicodeWarning"),de P [85,115,101,114,87,97,114,110,105,110,103] 120 (.type "UserWarning"),de P [66,108,111,99,107,105,110,103,73,79,69,114,114,111,114] 121 (.type "BlockingIOError"),de P [67,104,105,108,100,80,114,111,99,101,115,115,69,114,114,111,114] 122 (.type "ChildProcessError"),de P [67,111,110,110,101,99,116,105,111,110,69,114,114,111,114] 123 (.type "ConnectionError"),de P [70,105,108,101,69,120,105,115,116,115,69,114,114,111,114] 124 (.type "FileExistsError"),de P [70,105,108,101,78,111,116,70,111,117,110,100,69,114,114,111,114] 125 (.type "FileNotFoundError"),de P [73,110,116,101,114,114,117,112,116,101,100,69,114,114,111,114] 126 (.type "InterruptedError"),de P [73,115,65,68,105,114,101,99,116,111,114,121,69,114,114,111,114] 127 (.type "IsADirectoryError"),de P [78,111,116,65,68,105,114,101,99,116,111,114,121,69,114,114,111,114] 128 (.type "NotADirectoryError"),de P [80,101,114,109,105,115,115,105,111,110,69,114,114,111,114] 129 (.type "PermissionError"),de P [80,114,111,99,101,115,115,76,111,111,107,117,112,69,114,114,111,114] 130 (.type "ProcessLookupError"),de P [84,105,109,101,111,117,116,69,114,114,111,114] 131 (.type "TimeoutError"),de P [73,110,100,101,110,116,97,116,105,111,110,69,114,114,111,114] 132 (.type "IndentationError"),de P [95,73,110,99,111,109,112,108,101,116,101,73,110,112,117,116,69,114,114,111,114] 133 (.type "_IncompleteInputError"),de P [73,110,100,101,120,69,114,114,111,114] 134 (.type "IndexError"),de P [75,101,121,69,114,114,111,114] 135 (.type "KeyError"),de P [77,111,100,117,108,101,78,111,116,70,111,117,110,100,69,114,114,111,114] 136 (.type "ModuleNotFoundError"),de P [78,111,116,73,109,112,108,101,109,101,110,116,101,100,69,114,114,111,114] 137 (.type "NotImplementedError"),de P [80,121,116,104,111,110,70,105,110,97,108,105,122,97,116,105,111,110,69,114,114,111,114] 138 (.type "PythonFinalizationError"),de P [82,101,99,117,114,115,105,111,110,69,114,114,111,114] 139 (.type "RecursionError"),de P [85,110,98,111,117,110,100,76,111,99,97,108,69,114,114,111,114] 140 (.type "UnboundLocalError"),de P [85,110,105,99,111,100,101,69,114,114,111,114] 141 (.type "UnicodeError"),de P [66,114,111,107,101,110,80,105,112,101,69,114,114,111,114] 142 (.type "BrokenPipeError"),de P [67,111,110,110,101,99,116,105,111,110,65,98,111,114,116,101,100,69,114,114,111,114] 143 (.type "ConnectionAbortedError"),de P [67,111,110,110,101,99,116,105,111,110,82,101,102,117,115,101,100,69,114,114,111,114] 144 (.type "ConnectionRefusedError"),de P [67,111,110,110,101,99,116,105,111,110,82,101,115,101,116,69,114,114,111,114] 145 (.type "ConnectionResetError"),de P [84,97,98,69,114,114,111,114] 146 (.type "TabError"),de P [85,110,105,99,111,100,101,68,101,99,111,100,101,69,114,114,111,114] 147 (.type "UnicodeDecodeError"),de P [85,110,105,99,111,100,101,69,110,99,111,100,101,69,114,114,111,114] 148 (.type "UnicodeEncodeError"),de P [85,110,105,99,111,100,101,84,114,97,110,115,108,97,116,101,69,114,114,111,114] 149 (.type "UnicodeTranslateError"),de P [69,120,99,101,112,116,105,111,110,71,114,111,117,112] 150 (.type "ExceptionGroup"),de P [69,110,118,105,114,111,110,109,101,110,116,69,114,114,111,114] 151 (.type "OSError"),de P [73,79,69,114,114,111,114] 152 (.type "OSError"),de P [111,112,101,110] 153 (.builtin "open"),de P [113,117,105,116] 154 (.builtin "builtins.quit#opaque"),de P [101,120,105,116] 155 (.builtin "builtins.exit#opaque"),de P [99,111,112,121,114,105,103,104,116] 156 (.builtin "builtins.copyright#opaque"),de P [99,114,101,100,105,116,115] 157 (.builtin "builtins.credits#opaque"),de P [108,105,99,101,110,115,101] 158 (.builtin "builtins.license#opaque"),de P [104,101,108,112] 159 (.builtin "builtins.help#opaque")] 159,#[]⟩
noncomputable def o1 (P:Params):Obj:=⟨.type "dict",none,.dict #[de P [98,117,105,108,116,105,110,115] 162 (.ref 4),de P [95,95,109,97,105,110,95,95] 163 (.ref 5)] 2,#[]⟩
noncomputable def o2 (P:Params):Obj:=⟨.none,none,.dict #[de P [116,121,112,101,46,95,95,115,117,98,99,108,97,115,115,101,115,95,95,46,69,120,99,101,112,116,105,111,110,46,48] 312 (.int (115) 0),de P [116,121,112,101,46,95,95,115,117,98,99,108,97,115,115,101,115,95,95,46,69,120,99,101,112,116,105,111,110,46,110] 313 (.int (1) 0)] 2,#[]⟩
noncomputable def o3 (P:Params):Obj:=⟨.type "dict",none,.dict #[de P [95,95,110,97,109,101,95,95] 165 (st [108,97,119,95,120,114,48,48,48,54,95,48,50] 421),de P [95,95,100,111,99,95,95] 166 .none,de P [95,95,112,97,99,107,97,103,101,95,95] 167 .none,de P [95,95,108,111,97,100,101,114,95,95] 168 (.builtin "__main__.__loader__#opaque"),de P [95,95,115,112,101,99,95,95] 169 .none,de P [95,95,97,110,110,111,116,97,116,105,111,110,115,95,95] 170 (.ref 6),de P [95,95,98,117,105,108,116,105,110,115,95,95] 171 (.ref 4),de P [95,95,102,105,108,101,95,95] 173 (st [47,99,108,97,105,109,47,99,117,116,46,112,121] 172),de P [95,95,99,97,99,104,101,100,95,95] 174 .none,de P [95,119,97,108,108] 193 (.ref 21),de P [69,77,80,84,89,83,84,82,73,78,71] 197 (st [] 196),de P [95,65,99,99,117,109,117,108,97,116,111,114] 293 (.ref 101),de P [69,114,114,111,114] 315 (.ref 115),de P [101,114,114,111,114,95,114,101,112,108,121] 331 (.ref 128),de P [101,114,114,111,114,95,112,114,111,116,111] 347 (.ref 140),de P [112,97,114,115,101,50,50,57] 360 (.ref 149),de P [95,110,101,116,114,99,108,101,120] 420 (.ref 187),de P [95,108,97,119,95,108,101,120,101,114] 433 (.ref 198),de P [95,108,97,119,95,110,117,109,98,101,114,115] 439 (.ref 203),de P [95,108,97,119,95,119,111,114,100,115] 450 (.ref 210),de P [95,108,97,119,95,115,104,101,101,116] 456 (.ref 215),de P [95,108,97,119,95,111,114,100,101,114,115] 462 (.ref 220),de P [95,108,97,119,95,108,101,102,116] 468 (.ref 225),de P [95,108,97,119,95,114,105,110,103,115] 474 (.ref 230),de P [108,97,119] 480 (.ref 235)] 25,#[]⟩
noncomputable def o4 (P:Params):Obj:=⟨.type "module",(some (0)),.plain,#[]⟩
noncomputable def o5 (P:Params):Obj:=⟨.type "module",(some (3)),.plain,#[]⟩
noncomputable def o6 (P:Params):Obj:=⟨.type "dict",none,.dict #[] 0,#[]⟩
noncomputable def o7 (P:Params):Obj:=⟨.type "tuple",none,.seq #[] 0,#[]⟩
noncomputable def o9 (P:Params):Obj:=⟨.type "code",none,.fields #[st [60,109,111,100,117,108,101,62] 176,st [60,109,111,100,117,108,101,62] 177,st [47,99,108,97,105,109,47,99,117,116,46,112,121] 178,.int (1) 0,.int (0) 0,.int (0) 0,.int (0) 0,.int (0) 0,.ref 7,.bool false,.int (175) 0,.ref 8,.none,.none,.none,.none,.int (179) 0,.int (1) 0,st [47,99,108,97,105,109,47,99,117,116,46,112,121] 180],#[]⟩
noncomputable def o10 (P:Params):Obj:=⟨.type "frame",none,.plain,#[(some (.ref 9)),(some (.ref 3)),(some (.ref 3)),none,(some (st [95,95,109,97,105,110,95,95] 164)),none,(some (.ref 0))]⟩
noncomputable def o11 (P:Params):Obj:=⟨.type "tuple",none,.seq #[] 0,#[]⟩
noncomputable def o13 (P:Params):Obj:=⟨.type "code",none,.fields #[st [60,109,111,100,117,108,101,62] 182,st [60,109,111,100,117,108,101,62] 183,st [47,99,108,97,105,109,47,99,117,116,46,112,121] 184,.int (1) 0,.int (0) 0,.int (0) 0,.int (0) 0,.int (0) 0,.ref 11,.bool false,.int (181) 0,.ref 12,.none,.none,.none,.none,.int (185) 0,.int (1) 0,st [47,99,108,97,105,109,47,99,117,116,46,112,121] 186],#[]⟩
noncomputable def o14 (P:Params):Obj:=⟨.type "frame",none,.plain,#[(some (.ref 13)),(some (.ref 3)),(some (.ref 3)),none,(some (st [95,95,109,97,105,110,95,95] 164)),none,(some (.ref 0))]⟩
noncomputable def o15 (P:Params):Obj:=⟨.type "tuple",none,.seq #[] 0,#[]⟩
noncomputable def o17 (P:Params):Obj:=⟨.type "tuple",none,.seq #[st [107] 190] 0,#[]⟩
noncomputable def o18 (P:Params):Obj:=⟨.type "tuple",none,.seq #[] 0,#[]⟩
noncomputable def o20 (P:Params):Obj:=⟨.type "code",none,.fields #[st [95,119,97,108,108] 187,st [95,119,97,108,108] 188,st [47,99,108,97,105,109,47,99,117,116,46,112,121] 189,.int (1) 0,.int (1) 0,.int (0) 0,.int (0) 0,.int (3) 0,.ref 15,.bool true,.int (181) 0,.ref 16,.none,.ref 17,.ref 18,.ref 19,.int (191) 0,.int (1) 0,st [47,99,108,97,105,109,47,99,117,116,46,112,121] 192],#[]⟩
noncomputable def o21 (P:Params):Obj:=⟨.type "function",none,.func (fnD (defAt 0 none) ⟨#[95,119,97,108,108]⟩ ⟨#[95,119,97,108,108]⟩ 3 [] (.none) (.none) (.none) (st [95,95,109,97,105,110,95,95] 164) none (.ref 20) (.none) 0),#[]⟩
noncomputable def o22 (P:Params):Obj:=⟨.type "tuple",none,.seq #[.type "list"] 0,#[]⟩
noncomputable def o25 (P:Params):Obj:=⟨.type "cell",none,.cell (some (.ref 101)),#[]⟩
noncomputable def o30 (P:Params):Obj:=⟨.type "tuple",none,.seq #[.int (0) 210] 0,#[]⟩
noncomputable def o31 (P:Params):Obj:=⟨.type "tuple",none,.seq #[.ref 25] 0,#[]⟩
noncomputable def o32 (P:Params):Obj:=⟨.type "tuple",none,.seq #[st [95,95,99,108,97,115,115,95,95] 214] 0,#[]⟩
noncomputable def o34 (P:Params):Obj:=⟨.type "tuple",none,.seq #[st [115,101,108,102] 215,st [105,110,105,116,105,97,108,95,115,105,122,101] 216] 0,#[]⟩
noncomputable def o35 (P:Params):Obj:=⟨.type "tuple",none,.seq #[] 0,#[]⟩
noncomputable def o37 (P:Params):Obj:=⟨.type "code",none,.fields #[st [95,95,105,110,105,116,95,95] 211,st [95,65,99,99,117,109,117,108,97,116,111,114,46,95,95,105,110,105,116,95,95] 212,st [47,99,108,97,105,109,47,99,117,116,46,112,121] 213,.int (8) 0,.int (2) 0,.int (0) 0,.int (0) 0,.int (3) 0,.ref 32,.bool true,.int (181) 0,.ref 33,.none,.ref 34,.ref 35,.ref 36,.int (217) 0,.int (8) 0,st [47,99,108,97,105,109,47,99,117,116,46,112,121] 218],#[]⟩
noncomputable def o38 (P:Params):Obj:=⟨.type "function",none,.func (fnD (defAt 3 (some 0)) ⟨#[95,95,105,110,105,116,95,95]⟩ ⟨#[95,65,99,99,117,109,117,108,97,116,111,114,46,95,95,105,110,105,116,95,95]⟩ 3 [(⟨#[95,95,99,108,97,115,115,95,95]⟩,25)] (.ref 30) (.none) (.none) (st [99,112,121,51,49,51,46,101,109,97,105,108,46,104,101,97,100,101,114] 194) none (.ref 37) (.ref 31) 0),#[]⟩
noncomputable def o39 (P:Params):Obj:=⟨.type "tuple",none,.seq #[] 0,#[]⟩
noncomputable def o41 (P:Params):Obj:=⟨.type "tuple",none,.seq #[st [115,101,108,102] 223,st [102,119,115] 224,st [115,116,114,105,110,103] 225] 0,#[]⟩
noncomputable def o42 (P:Params):Obj:=⟨.type "tuple",none,.seq #[] 0,#[]⟩
noncomputable def o44 (P:Params):Obj:=⟨.type "code",none,.fields #[st [112,117,115,104] 220,st [95,65,99,99,117,109,117,108,97,116,111,114,46,112,117,115,104] 221,st [47,99,108,97,105,109,47,99,117,116,46,112,121] 222,.int (12) 0,.int (3) 0,.int (0) 0,.int (0) 0,.int (3) 0,.ref 39,.bool true,.int (181) 0,.ref 40,.none,.ref 41,.ref 42,.ref 43,.int (226) 0,.int (12) 0,st [47,99,108,97,105,109,47,99,117,116,46,112,121] 227],#[]⟩
noncomputable def o45 (P:Params):Obj:=⟨.type "function",none,.func (fnD (defAt 3 (some 1)) ⟨#[112,117,115,104]⟩ ⟨#[95,65,99,99,117,109,117,108,97,116,111,114,46,112,117,115,104]⟩ 3 [] (.none) (.none) (.none) (st [99,112,121,51,49,51,46,101,109,97,105,108,46,104,101,97,100,101,114] 194) none (.ref 44) (.none) 0),#[]⟩
noncomputable def o46 (P:Params):Obj:=⟨.type "tuple",none,.seq #[.int (0) 229] 0,#[]⟩
noncomputable def o47 (P:Params):Obj:=⟨.type "tuple",none,.seq #[] 0,#[]⟩
noncomputable def o49 (P:Params):Obj:=⟨.type "tuple",none,.seq #[st [115,101,108,102] 233,st [105] 234,st [112,111,112,112,101,100] 235] 0,#[]⟩
noncomputable def o50 (P:Params):Obj:=⟨.type "tuple",none,.seq #[] 0,#[]⟩
noncomputable def o52 (P:Params):Obj:=⟨.type "code",none,.fields #[st [112,111,112,95,102,114,111,109] 230,st [95,65,99,99,117,109,117,108,97,116,111,114,46,112,111,112,95,102,114,111,109] 231,st [47,99,108,97,105,109,47,99,117,116,46,112,121] 232,.int (15) 0,.int (2) 0,.int (0) 0,.int (0) 0,.int (3) 0,.ref 47,.bool true,.int (181) 0,.ref 48,.none,.ref 49,.ref 50,.ref 51,.int (236) 0,.int (15) 0,st [47,99,108,97,105,109,47,99,117,116,46,112,121] 237],#[]⟩
noncomputable def o53 (P:Params):Obj:=⟨.type "function",none,.func (fnD (defAt 3 (some 2)) ⟨#[112,111,112,95,102,114,111,109]⟩ ⟨#[95,65,99,99,117,109,117,108,97,116,111,114,46,112,111,112,95,102,114,111,109]⟩ 3 [] (.ref 46) (.none) (.none) (st [99,112,121,51,49,51,46,101,109,97,105,108,46,104,101,97,100,101,114] 194) none (.ref 52) (.none) 0),#[]⟩
noncomputable def o54 (P:Params):Obj:=⟨.type "tuple",none,.seq #[.ref 25] 0,#[]⟩
noncomputable def o55 (P:Params):Obj:=⟨.type "tuple",none,.seq #[st [95,95,99,108,97,115,115,95,95] 242] 0,#[]⟩
noncomputable def o57 (P:Params):Obj:=⟨.type "tuple",none,.seq #[st [115,101,108,102] 243] 0,#[]⟩
noncomputable def o58 (P:Params):Obj:=⟨.type "tuple",none,.seq #[] 0,#[]⟩
noncomputable def o60 (P:Params):Obj:=⟨.type "code",none,.fields #[st [112,111,112] 239,st [95,65,99,99,117,109,117,108,97,116,111,114,46,112,111,112] 240,st [47,99,108,97,105,109,47,99,117,116,46,112,121] 241,.int (20) 0,.int (1) 0,.int (0) 0,.int (0) 0,.int (3) 0,.ref 55,.bool true,.int (181) 0,.ref 56,.none,.ref 57,.ref 58,.ref 59,.int (244) 0,.int (20) 0,st [47,99,108,97,105,109,47,99,117,116,46,112,121] 245],#[]⟩
noncomputable def o61 (P:Params):Obj:=⟨.type "function",none,.func (fnD (defAt 3 (some 3)) ⟨#[112,111,112]⟩ ⟨#[95,65,99,99,117,109,117,108,97,116,111,114,46,112,111,112]⟩ 3 [(⟨#[95,95,99,108,97,115,115,95,95]⟩,25)] (.none) (.none) (.none) (st [99,112,121,51,49,51,46,101,109,97,105,108,46,104,101,97,100,101,114] 194) none (.ref 60) (.ref 54) 0),#[]⟩
noncomputable def o62 (P:Params):Obj:=⟨.type "tuple",none,.seq #[] 0,#[]⟩
noncomputable def o64 (P:Params):Obj:=⟨.type "tuple",none,.seq #[st [115,101,108,102] 250] 0,#[]⟩
noncomputable def o65 (P:Params):Obj:=⟨.type "tuple",none,.seq #[] 0,#[]⟩
noncomputable def o67 (P:Params):Obj:=⟨.type "code",none,.fields #[st [95,95,108,101,110,95,95] 247,st [95,65,99,99,117,109,117,108,97,116,111,114,46,95,95,108,101,110,95,95] 248,st [47,99,108,97,105,109,47,99,117,116,46,112,121] 249,.int (25) 0,.int (1) 0,.int (0) 0,.int (0) 0,.int (3) 0,.ref 62,.bool true,.int (181) 0,.ref 63,.none,.ref 64,.ref 65,.ref 66,.int (251) 0,.int (25) 0,st [47,99,108,97,105,109,47,99,117,116,46,112,121] 252],#[]⟩
noncomputable def o68 (P:Params):Obj:=⟨.type "function",none,.func (fnD (defAt 3 (some 4)) ⟨#[95,95,108,101,110,95,95]⟩ ⟨#[95,65,99,99,117,109,117,108,97,116,111,114,46,95,95,108,101,110,95,95]⟩ 3 [] (.none) (.none) (.none) (st [99,112,121,51,49,51,46,101,109,97,105,108,46,104,101,97,100,101,114] 194) none (.ref 67) (.none) 0),#[]⟩
noncomputable def o69 (P:Params):Obj:=⟨.type "tuple",none,.seq #[] 0,#[]⟩
noncomputable def o71 (P:Params):Obj:=⟨.type "tuple",none,.seq #[st [115,101,108,102] 257] 0,#[]⟩
noncomputable def o72 (P:Params):Obj:=⟨.type "tuple",none,.seq #[] 0,#[]⟩
noncomputable def o74 (P:Params):Obj:=⟨.type "code",none,.fields #[st [95,95,115,116,114,95,95] 254,st [95,65,99,99,117,109,117,108,97,116,111,114,46,95,95,115,116,114,95,95] 255,st [47,99,108,97,105,109,47,99,117,116,46,112,121] 256,.int (28) 0,.int (1) 0,.int (0) 0,.int (0) 0,.int (3) 0,.ref 69,.bool true,.int (181) 0,.ref 70,.none,.ref 71,.ref 72,.ref 73,.int (258) 0,.int (28) 0,st [47,99,108,97,105,109,47,99,117,116,46,112,121] 259],#[]⟩
noncomputable def o75 (P:Params):Obj:=⟨.type "function",none,.func (fnD (defAt 3 (some 5)) ⟨#[95,95,115,116,114,95,95]⟩ ⟨#[95,65,99,99,117,109,117,108,97,116,111,114,46,95,95,115,116,114,95,95]⟩ 3 [] (.none) (.none) (.none) (st [99,112,121,51,49,51,46,101,109,97,105,108,46,104,101,97,100,101,114] 194) none (.ref 74) (.none) 0),#[]⟩
noncomputable def o76 (P:Params):Obj:=⟨.type "tuple",none,.seq #[.none] 0,#[]⟩
noncomputable def o77 (P:Params):Obj:=⟨.type "tuple",none,.seq #[] 0,#[]⟩
noncomputable def o79 (P:Params):Obj:=⟨.type "tuple",none,.seq #[st [115,101,108,102] 264,st [115,116,97,114,116,118,97,108] 265] 0,#[]⟩
noncomputable def o80 (P:Params):Obj:=⟨.type "tuple",none,.seq #[] 0,#[]⟩
noncomputable def o82 (P:Params):Obj:=⟨.type "code",none,.fields #[st [114,101,115,101,116] 261,st [95,65,99,99,117,109,117,108,97,116,111,114,46,114,101,115,101,116] 262,st [47,99,108,97,105,109,47,99,117,116,46,112,121] 263,.int (31) 0,.int (2) 0,.int (0) 0,.int (0) 0,.int (3) 0,.ref 77,.bool true,.int (181) 0,.ref 78,.none,.ref 79,.ref 80,.ref 81,.int (266) 0,.int (31) 0,st [47,99,108,97,105,109,47,99,117,116,46,112,121] 267],#[]⟩
noncomputable def o83 (P:Params):Obj:=⟨.type "function",none,.func (fnD (defAt 3 (some 6)) ⟨#[114,101,115,101,116]⟩ ⟨#[95,65,99,99,117,109,117,108,97,116,111,114,46,114,101,115,101,116]⟩ 3 [] (.ref 76) (.none) (.none) (st [99,112,121,51,49,51,46,101,109,97,105,108,46,104,101,97,100,101,114] 194) none (.ref 82) (.none) 0),#[]⟩
noncomputable def o84 (P:Params):Obj:=⟨.type "tuple",none,.seq #[] 0,#[]⟩
noncomputable def o86 (P:Params):Obj:=⟨.type "tuple",none,.seq #[st [115,101,108,102] 272] 0,#[]⟩
noncomputable def o87 (P:Params):Obj:=⟨.type "tuple",none,.seq #[] 0,#[]⟩
noncomputable def o89 (P:Params):Obj:=⟨.type "code",none,.fields #[st [105,115,95,111,110,108,121,119,115] 269,st [95,65,99,99,117,109,117,108,97,116,111,114,46,105,115,95,111,110,108,121,119,115] 270,st [47,99,108,97,105,109,47,99,117,116,46,112,121] 271,.int (37) 0,.int (1) 0,.int (0) 0,.int (0) 0,.int (3) 0,.ref 84,.bool true,.int (181) 0,.ref 85,.none,.ref 86,.ref 87,.ref 88,.int (273) 0,.int (37) 0,st [47,99,108,97,105,109,47,99,117,116,46,112,121] 274],#[]⟩
noncomputable def o90 (P:Params):Obj:=⟨.type "function",none,.func (fnD (defAt 3 (some 7)) ⟨#[105,115,95,111,110,108,121,119,115]⟩ ⟨#[95,65,99,99,117,109,117,108,97,116,111,114,46,105,115,95,111,110,108,121,119,115]⟩ 3 [] (.none) (.none) (.none) (st [99,112,121,51,49,51,46,101,109,97,105,108,46,104,101,97,100,101,114] 194) none (.ref 89) (.none) 0),#[]⟩
noncomputable def o91 (P:Params):Obj:=⟨.type "tuple",none,.seq #[.ref 25] 0,#[]⟩
noncomputable def o92 (P:Params):Obj:=⟨.type "tuple",none,.seq #[st [95,95,99,108,97,115,115,95,95] 279] 0,#[]⟩
noncomputable def o94 (P:Params):Obj:=⟨.type "tuple",none,.seq #[st [115,101,108,102] 280] 0,#[]⟩
noncomputable def o95 (P:Params):Obj:=⟨.type "tuple",none,.seq #[] 0,#[]⟩
noncomputable def o97 (P:Params):Obj:=⟨.type "code",none,.fields #[st [112,97,114,116,95,99,111,117,110,116] 276,st [95,65,99,99,117,109,117,108,97,116,111,114,46,112,97,114,116,95,99,111,117,110,116] 277,st [47,99,108,97,105,109,47,99,117,116,46,112,121] 278,.int (40) 0,.int (1) 0,.int (0) 0,.int (0) 0,.int (3) 0,.ref 92,.bool true,.int (181) 0,.ref 93,.none,.ref 94,.ref 95,.ref 96,.int (281) 0,.int (40) 0,st [47,99,108,97,105,109,47,99,117,116,46,112,121] 282],#[]⟩
noncomputable def o98 (P:Params):Obj:=⟨.type "function",none,.func (fnD (defAt 3 (some 8)) ⟨#[112,97,114,116,95,99,111,117,110,116]⟩ ⟨#[95,65,99,99,117,109,117,108,97,116,111,114,46,112,97,114,116,95,99,111,117,110,116]⟩ 3 [(⟨#[95,95,99,108,97,115,115,95,95]⟩,25)] (.none) (.none) (.none) (st [99,112,121,51,49,51,46,101,109,97,105,108,46,104,101,97,100,101,114] 194) none (.ref 97) (.ref 91) 0),#[]⟩
noncomputable def o99 (P:Params):Obj:=⟨.type "tuple",none,.seq #[st [95,105,110,105,116,105,97,108,95,115,105,122,101] 284] 0,#[]⟩
noncomputable def o100 (P:Params):Obj:=⟨.type "dict",none,.dict #[de P [95,95,109,111,100,117,108,101,95,95] 205 (st [99,112,121,51,49,51,46,101,109,97,105,108,46,104,101,97,100,101,114] 194),de P [95,95,102,105,114,115,116,108,105,110,101,110,111,95,95] 209 (.int (6) 208),de P [95,95,105,110,105,116,95,95] 219 (.ref 38),de P [112,117,115,104] 228 (.ref 45),de P [112,111,112,95,102,114,111,109] 238 (.ref 53),de P [112,111,112] 246 (.ref 61),de P [95,95,108,101,110,95,95] 253 (.ref 68),de P [95,95,115,116,114,95,95] 260 (.ref 75),de P [114,101,115,101,116] 268 (.ref 83),de P [105,115,95,111,110,108,121,119,115] 275 (.ref 90),de P [112,97,114,116,95,99,111,117,110,116] 283 (.ref 98),de P [95,95,115,116,97,116,105,99,95,97,116,116,114,105,98,117,116,101,115,95,95] 285 (.ref 99),de P [95,95,100,105,99,116,95,95] 288 (.ref 102),de P [95,95,119,101,97,107,114,101,102,95,95] 290 (.ref 103),de P [95,95,100,111,99,95,95] 291 .none] 5,#[]⟩
noncomputable def o101 (P:Params):Obj:=⟨.type "type",none,.cls {name:=⟨#[95,65,99,99,117,109,117,108,97,116,111,114]⟩,bases:=[.type "list"],mro:=[.ref 101,.type "list",.type "object"],ns:=100,qualname:=⟨#[95,65,99,99,117,109,117,108,97,116,111,114]⟩,hasDict:=true,slotNames:=[],subclasses:=[],abstract:=false,collection:=none,hasDel:=false},#[(some (.ref 22)),none,(some (st [95,65,99,99,117,109,117,108,97,116,111,114] 198)),(some (st [95,65,99,99,117,109,117,108,97,116,111,114] 206)),(some (.builtin "list.__new__")),(some (.bool true))]⟩
noncomputable def o102 (P:Params):Obj:=⟨.type "getset_descriptor",none,.fields #[st [95,95,100,105,99,116,95,95] 287,.ref 101,.builtin "function.__dict__",.builtin "function.__dict__#set"],#[]⟩
noncomputable def o103 (P:Params):Obj:=⟨.type "getset_descriptor",none,.fields #[st [95,95,119,101,97,107,114,101,102,95,95] 289,.ref 101,.builtin "ExceptionGroup.__weakref__",.none],#[]⟩
noncomputable def o106 (P:Params):Obj:=⟨.type "tuple",none,.seq #[.type "Exception"] 0,#[]⟩
noncomputable def o113 (P:Params):Obj:=⟨.type "tuple",none,.seq #[] 0,#[]⟩
noncomputable def o114 (P:Params):Obj:=⟨.type "dict",none,.dict #[de P [95,95,109,111,100,117,108,101,95,95] 303 (st [99,112,121,51,49,51,46,102,116,112,108,105,98] 294),de P [95,95,102,105,114,115,116,108,105,110,101,110,111,95,95] 307 (.int (43) 306),de P [95,95,115,116,97,116,105,99,95,97,116,116,114,105,98,117,116,101,115,95,95] 308 (.ref 113),de P [95,95,119,101,97,107,114,101,102,95,95] 310 (.ref 116),de P [95,95,100,111,99,95,95] 311 .none] 3,#[]⟩
noncomputable def o115 (P:Params):Obj:=⟨.type "type",none,.cls {name:=⟨#[69,114,114,111,114]⟩,bases:=[.type "Exception"],mro:=[.ref 115,.type "Exception",.type "BaseException",.type "object"],ns:=114,qualname:=⟨#[69,114,114,111,114]⟩,hasDict:=true,slotNames:=[],subclasses:=[.ref 128,.ref 140],abstract:=false,collection:=none,hasDel:=false},#[(some (.ref 106)),none,(some (st [69,114,114,111,114] 296)),(some (st [69,114,114,111,114] 304)),(some (.builtin "Exception.__new__")),(some (.bool true))]⟩
noncomputable def o116 (P:Params):Obj:=⟨.type "getset_descriptor",none,.fields #[st [95,95,119,101,97,107,114,101,102,95,95] 309,.ref 115,.builtin "ExceptionGroup.__weakref__",.none],#[]⟩
noncomputable def o119 (P:Params):Obj:=⟨.type "tuple",none,.seq #[.ref 115] 0,#[]⟩
noncomputable def o126 (P:Params):Obj:=⟨.type "tuple",none,.seq #[] 0,#[]⟩
noncomputable def o127 (P:Params):Obj:=⟨.type "dict",none,.dict #[de P [95,95,109,111,100,117,108,101,95,95] 323 (st [99,112,121,51,49,51,46,102,116,112,108,105,98] 294),de P [95,95,102,105,114,115,116,108,105,110,101,110,111,95,95] 327 (.int (45) 326),de P [95,95,115,116,97,116,105,99,95,97,116,116,114,105,98,117,116,101,115,95,95] 328 (.ref 126),de P [95,95,100,111,99,95,95] 329 .none] 2,#[]⟩
noncomputable def o128 (P:Params):Obj:=⟨.type "type",none,.cls {name:=⟨#[101,114,114,111,114,95,114,101,112,108,121]⟩,bases:=[.ref 115],mro:=[.ref 128,.ref 115,.type "Exception",.type "BaseException",.type "object"],ns:=127,qualname:=⟨#[101,114,114,111,114,95,114,101,112,108,121]⟩,hasDict:=true,slotNames:=[],subclasses:=[],abstract:=false,collection:=none,hasDel:=false},#[(some (.ref 119)),none,(some (st [101,114,114,111,114,95,114,101,112,108,121] 316)),(some (st [101,114,114,111,114,95,114,101,112,108,121] 324)),(some (.builtin "Exception.__new__")),(some (.bool true))]⟩
noncomputable def o131 (P:Params):Obj:=⟨.type "tuple",none,.seq #[.ref 115] 0,#[]⟩
noncomputable def o138 (P:Params):Obj:=⟨.type "tuple",none,.seq #[] 0,#[]⟩
noncomputable def o139 (P:Params):Obj:=⟨.type "dict",none,.dict #[de P [95,95,109,111,100,117,108,101,95,95] 339 (st [99,112,121,51,49,51,46,102,116,112,108,105,98] 294),de P [95,95,102,105,114,115,116,108,105,110,101,110,111,95,95] 343 (.int (47) 342),de P [95,95,115,116,97,116,105,99,95,97,116,116,114,105,98,117,116,101,115,95,95] 344 (.ref 138),de P [95,95,100,111,99,95,95] 345 .none] 2,#[]⟩
noncomputable def o140 (P:Params):Obj:=⟨.type "type",none,.cls {name:=⟨#[101,114,114,111,114,95,112,114,111,116,111]⟩,bases:=[.ref 115],mro:=[.ref 140,.ref 115,.type "Exception",.type "BaseException",.type "object"],ns:=139,qualname:=⟨#[101,114,114,111,114,95,112,114,111,116,111]⟩,hasDict:=true,slotNames:=[],subclasses:=[],abstract:=false,collection:=none,hasDel:=false},#[(some (.ref 131)),none,(some (st [101,114,114,111,114,95,112,114,111,116,111] 332)),(some (st [101,114,114,111,114,95,112,114,111,116,111] 340)),(some (.builtin "Exception.__new__")),(some (.bool true))]⟩
noncomputable def o143 (P:Params):Obj:=⟨.type "tuple",none,.seq #[] 0,#[]⟩
noncomputable def o145 (P:Params):Obj:=⟨.type "tuple",none,.seq #[st [114,101,115,112] 351,st [112,101,101,114] 352,st [108,101,102,116] 353,st [114,105,103,104,116] 354,st [112,97,114,116,115] 355,st [104,111,115,116] 356,st [112,111,114,116] 357] 0,#[]⟩
noncomputable def o146 (P:Params):Obj:=⟨.type "tuple",none,.seq #[] 0,#[]⟩
noncomputable def o148 (P:Params):Obj:=⟨.type "code",none,.fields #[st [112,97,114,115,101,50,50,57] 348,st [112,97,114,115,101,50,50,57] 349,st [47,99,108,97,105,109,47,99,117,116,46,112,121] 350,.int (49) 0,.int (2) 0,.int (0) 0,.int (0) 0,.int (3) 0,.ref 143,.bool true,.int (181) 0,.ref 144,.none,.ref 145,.ref 146,.ref 147,.int (358) 0,.int (49) 0,st [47,99,108,97,105,109,47,99,117,116,46,112,121] 359],#[]⟩
noncomputable def o149 (P:Params):Obj:=⟨.type "function",none,.func (fnD (defAt 8 none) ⟨#[112,97,114,115,101,50,50,57]⟩ ⟨#[112,97,114,115,101,50,50,57]⟩ 3 [] (.none) (.none) (.none) (st [99,112,121,51,49,51,46,102,116,112,108,105,98] 294) none (.ref 148) (.none) 0),#[]⟩
noncomputable def o157 (P:Params):Obj:=⟨.type "tuple",none,.seq #[] 0,#[]⟩
noncomputable def o159 (P:Params):Obj:=⟨.type "tuple",none,.seq #[st [115,101,108,102] 378,st [102,112] 379] 0,#[]⟩
noncomputable def o160 (P:Params):Obj:=⟨.type "tuple",none,.seq #[] 0,#[]⟩
noncomputable def o162 (P:Params):Obj:=⟨.type "code",none,.fields #[st [95,95,105,110,105,116,95,95] 375,st [95,110,101,116,114,99,108,101,120,46,95,95,105,110,105,116,95,95] 376,st [47,99,108,97,105,109,47,99,117,116,46,112,121] 377,.int (69) 0,.int (2) 0,.int (0) 0,.int (0) 0,.int (3) 0,.ref 157,.bool true,.int (181) 0,.ref 158,.none,.ref 159,.ref 160,.ref 161,.int (380) 0,.int (69) 0,st [47,99,108,97,105,109,47,99,117,116,46,112,121] 381],#[]⟩
noncomputable def o163 (P:Params):Obj:=⟨.type "function",none,.func (fnD (defAt 10 (some 0)) ⟨#[95,95,105,110,105,116,95,95]⟩ ⟨#[95,110,101,116,114,99,108,101,120,46,95,95,105,110,105,116,95,95]⟩ 3 [] (.none) (.none) (.none) (st [99,112,121,51,49,51,46,110,101,116,114,99] 361) none (.ref 162) (.none) 0),#[]⟩
noncomputable def o164 (P:Params):Obj:=⟨.type "tuple",none,.seq #[] 0,#[]⟩
noncomputable def o166 (P:Params):Obj:=⟨.type "tuple",none,.seq #[st [115,101,108,102] 386,st [99,104] 387] 0,#[]⟩
noncomputable def o167 (P:Params):Obj:=⟨.type "tuple",none,.seq #[] 0,#[]⟩
noncomputable def o169 (P:Params):Obj:=⟨.type "code",none,.fields #[st [95,114,101,97,100,95,99,104,97,114] 383,st [95,110,101,116,114,99,108,101,120,46,95,114,101,97,100,95,99,104,97,114] 384,st [47,99,108,97,105,109,47,99,117,116,46,112,121] 385,.int (75) 0,.int (1) 0,.int (0) 0,.int (0) 0,.int (3) 0,.ref 164,.bool true,.int (181) 0,.ref 165,.none,.ref 166,.ref 167,.ref 168,.int (388) 0,.int (75) 0,st [47,99,108,97,105,109,47,99,117,116,46,112,121] 389],#[]⟩
noncomputable def o170 (P:Params):Obj:=⟨.type "function",none,.func (fnD (defAt 10 (some 1)) ⟨#[95,114,101,97,100,95,99,104,97,114]⟩ ⟨#[95,110,101,116,114,99,108,101,120,46,95,114,101,97,100,95,99,104,97,114]⟩ 3 [] (.none) (.none) (.none) (st [99,112,121,51,49,51,46,110,101,116,114,99] 361) none (.ref 169) (.none) 0),#[]⟩
noncomputable def o171 (P:Params):Obj:=⟨.type "tuple",none,.seq #[] 0,#[]⟩
noncomputable def o173 (P:Params):Obj:=⟨.type "tuple",none,.seq #[st [115,101,108,102] 394,st [116,111,107,101,110] 395,st [102,105,116,101,114] 396,st [99,104] 397] 0,#[]⟩
noncomputable def o174 (P:Params):Obj:=⟨.type "tuple",none,.seq #[] 0,#[]⟩
noncomputable def o176 (P:Params):Obj:=⟨.type "code",none,.fields #[st [103,101,116,95,116,111,107,101,110] 391,st [95,110,101,116,114,99,108,101,120,46,103,101,116,95,116,111,107,101,110] 392,st [47,99,108,97,105,109,47,99,117,116,46,112,121] 393,.int (81) 0,.int (1) 0,.int (0) 0,.int (0) 0,.int (3) 0,.ref 171,.bool true,.int (181) 0,.ref 172,.none,.ref 173,.ref 174,.ref 175,.int (398) 0,.int (81) 0,st [47,99,108,97,105,109,47,99,117,116,46,112,121] 399],#[]⟩
noncomputable def o177 (P:Params):Obj:=⟨.type "function",none,.func (fnD (defAt 10 (some 2)) ⟨#[103,101,116,95,116,111,107,101,110]⟩ ⟨#[95,110,101,116,114,99,108,101,120,46,103,101,116,95,116,111,107,101,110]⟩ 3 [] (.none) (.none) (.none) (st [99,112,121,51,49,51,46,110,101,116,114,99] 361) none (.ref 176) (.none) 0),#[]⟩
noncomputable def o178 (P:Params):Obj:=⟨.type "tuple",none,.seq #[] 0,#[]⟩
noncomputable def o180 (P:Params):Obj:=⟨.type "tuple",none,.seq #[st [115,101,108,102] 404,st [116,111,107,101,110] 405] 0,#[]⟩
noncomputable def o181 (P:Params):Obj:=⟨.type "tuple",none,.seq #[] 0,#[]⟩
noncomputable def o183 (P:Params):Obj:=⟨.type "code",none,.fields #[st [112,117,115,104,95,116,111,107,101,110] 401,st [95,110,101,116,114,99,108,101,120,46,112,117,115,104,95,116,111,107,101,110] 402,st [47,99,108,97,105,109,47,99,117,116,46,112,121] 403,.int (108) 0,.int (2) 0,.int (0) 0,.int (0) 0,.int (3) 0,.ref 178,.bool true,.int (181) 0,.ref 179,.none,.ref 180,.ref 181,.ref 182,.int (406) 0,.int (108) 0,st [47,99,108,97,105,109,47,99,117,116,46,112,121] 407],#[]⟩
noncomputable def o184 (P:Params):Obj:=⟨.type "function",none,.func (fnD (defAt 10 (some 3)) ⟨#[112,117,115,104,95,116,111,107,101,110]⟩ ⟨#[95,110,101,116,114,99,108,101,120,46,112,117,115,104,95,116,111,107,101,110]⟩ 3 [] (.none) (.none) (.none) (st [99,112,121,51,49,51,46,110,101,116,114,99] 361) none (.ref 183) (.none) 0),#[]⟩
noncomputable def o185 (P:Params):Obj:=⟨.type "tuple",none,.seq #[st [105,110,115,116,114,101,97,109] 409,st [108,105,110,101,110,111] 410,st [112,117,115,104,98,97,99,107] 411,st [119,104,105,116,101,115,112,97,99,101] 412] 0,#[]⟩
noncomputable def o186 (P:Params):Obj:=⟨.type "dict",none,.dict #[de P [95,95,109,111,100,117,108,101,95,95] 370 (st [99,112,121,51,49,51,46,110,101,116,114,99] 361),de P [95,95,102,105,114,115,116,108,105,110,101,110,111,95,95] 374 (.int (67) 373),de P [95,95,105,110,105,116,95,95] 382 (.ref 163),de P [95,114,101,97,100,95,99,104,97,114] 390 (.ref 170),de P [103,101,116,95,116,111,107,101,110] 400 (.ref 177),de P [112,117,115,104,95,116,111,107,101,110] 408 (.ref 184),de P [95,95,115,116,97,116,105,99,95,97,116,116,114,105,98,117,116,101,115,95,95] 413 (.ref 185),de P [95,95,100,105,99,116,95,95] 415 (.ref 188),de P [95,95,119,101,97,107,114,101,102,95,95] 417 (.ref 189),de P [95,95,100,111,99,95,95] 418 .none] 4,#[]⟩
noncomputable def o187 (P:Params):Obj:=⟨.type "type",none,.cls {name:=⟨#[95,110,101,116,114,99,108,101,120]⟩,bases:=[.type "object"],mro:=[.ref 187,.type "object"],ns:=186,qualname:=⟨#[95,110,101,116,114,99,108,101,120]⟩,hasDict:=true,slotNames:=[],subclasses:=[],abstract:=false,collection:=none,hasDel:=false},#[none,none,(some (st [95,110,101,116,114,99,108,101,120] 363)),(some (st [95,110,101,116,114,99,108,101,120] 371)),(some (.builtin "object.__new__")),(some (.bool true))]⟩
noncomputable def o188 (P:Params):Obj:=⟨.type "getset_descriptor",none,.fields #[st [95,95,100,105,99,116,95,95] 414,.ref 187,.builtin "function.__dict__",.builtin "function.__dict__#set"],#[]⟩
noncomputable def o189 (P:Params):Obj:=⟨.type "getset_descriptor",none,.fields #[st [95,95,119,101,97,107,114,101,102,95,95] 416,.ref 187,.builtin "ExceptionGroup.__weakref__",.none],#[]⟩
noncomputable def o192 (P:Params):Obj:=⟨.type "tuple",none,.seq #[] 0,#[]⟩
noncomputable def o194 (P:Params):Obj:=⟨.type "tuple",none,.seq #[st [116,101,120,116] 426,st [95,108,97,119,95,114,101,97,100] 427,st [115,116,114,101,97,109] 428] 0,#[]⟩
noncomputable def o195 (P:Params):Obj:=⟨.type "tuple",none,.seq #[st [116,101,120,116] 429,st [97,116] 430] 0,#[]⟩
noncomputable def o197 (P:Params):Obj:=⟨.type "code",none,.fields #[st [95,108,97,119,95,108,101,120,101,114] 423,st [95,108,97,119,95,108,101,120,101,114] 424,st [47,99,108,97,105,109,47,99,117,116,46,112,121] 425,.int (111) 0,.int (1) 0,.int (0) 0,.int (0) 0,.int (3) 0,.ref 192,.bool true,.int (181) 0,.ref 193,.none,.ref 194,.ref 195,.ref 196,.int (431) 0,.int (111) 0,st [47,99,108,97,105,109,47,99,117,116,46,112,121] 432],#[]⟩
noncomputable def o198 (P:Params):Obj:=⟨.type "function",none,.func (fnD (defAt 12 none) ⟨#[95,108,97,119,95,108,101,120,101,114]⟩ ⟨#[95,108,97,119,95,108,101,120,101,114]⟩ 3 [] (.none) (.none) (.none) (st [108,97,119,95,120,114,48,48,48,54,95,48,50] 421) none (.ref 197) (.none) 0),#[]⟩
noncomputable def o199 (P:Params):Obj:=⟨.type "tuple",none,.seq #[] 0,#[]⟩
noncomputable def o202 (P:Params):Obj:=⟨.type "code",none,.fields #[st [95,108,97,119,95,110,117,109,98,101,114,115] 434,st [95,108,97,119,95,110,117,109,98,101,114,115] 435,st [47,99,108,97,105,109,47,99,117,116,46,112,121] 436,.int (120) 0,.int (1) 0,.int (0) 0,.int (0) 0,.int (3) 0,.ref 199,.bool true,.int (181) 0,.ref 200,.none,.none,.none,.ref 201,.int (437) 0,.int (120) 0,st [47,99,108,97,105,109,47,99,117,116,46,112,121] 438],#[]⟩
noncomputable def o203 (P:Params):Obj:=⟨.type "function",none,.func (fnD (defAt 13 none) ⟨#[95,108,97,119,95,110,117,109,98,101,114,115]⟩ ⟨#[95,108,97,119,95,110,117,109,98,101,114,115]⟩ 3 [] (.none) (.none) (.none) (st [108,97,119,95,120,114,48,48,48,54,95,48,50] 421) none (.ref 202) (.none) 0),#[]⟩
noncomputable def o204 (P:Params):Obj:=⟨.type "tuple",none,.seq #[] 0,#[]⟩
noncomputable def o206 (P:Params):Obj:=⟨.type "tuple",none,.seq #[st [110,97,109,101,115] 443,st [110,117,109,98,101,114,115] 444,st [119,111,114,100,115] 445,st [112,108,97,99,101] 446,st [109,97,114,107] 447] 0,#[]⟩
noncomputable def o207 (P:Params):Obj:=⟨.type "tuple",none,.seq #[] 0,#[]⟩
noncomputable def o209 (P:Params):Obj:=⟨.type "code",none,.fields #[st [95,108,97,119,95,119,111,114,100,115] 440,st [95,108,97,119,95,119,111,114,100,115] 441,st [47,99,108,97,105,109,47,99,117,116,46,112,121] 442,.int (125) 0,.int (2) 0,.int (0) 0,.int (0) 0,.int (3) 0,.ref 204,.bool true,.int (181) 0,.ref 205,.none,.ref 206,.ref 207,.ref 208,.int (448) 0,.int (125) 0,st [47,99,108,97,105,109,47,99,117,116,46,112,121] 449],#[]⟩
noncomputable def o210 (P:Params):Obj:=⟨.type "function",none,.func (fnD (defAt 14 none) ⟨#[95,108,97,119,95,119,111,114,100,115]⟩ ⟨#[95,108,97,119,95,119,111,114,100,115]⟩ 3 [] (.none) (.none) (.none) (st [108,97,119,95,120,114,48,48,48,54,95,48,50] 421) none (.ref 209) (.none) 0),#[]⟩
noncomputable def o211 (P:Params):Obj:=⟨.type "tuple",none,.seq #[] 0,#[]⟩
noncomputable def o214 (P:Params):Obj:=⟨.type "code",none,.fields #[st [95,108,97,119,95,115,104,101,101,116] 451,st [95,108,97,119,95,115,104,101,101,116] 452,st [47,99,108,97,105,109,47,99,117,116,46,112,121] 453,.int (132) 0,.int (2) 0,.int (0) 0,.int (0) 0,.int (3) 0,.ref 211,.bool true,.int (181) 0,.ref 212,.none,.none,.none,.ref 213,.int (454) 0,.int (132) 0,st [47,99,108,97,105,109,47,99,117,116,46,112,121] 455],#[]⟩
noncomputable def o215 (P:Params):Obj:=⟨.type "function",none,.func (fnD (defAt 15 none) ⟨#[95,108,97,119,95,115,104,101,101,116]⟩ ⟨#[95,108,97,119,95,115,104,101,101,116]⟩ 3 [] (.none) (.none) (.none) (st [108,97,119,95,120,114,48,48,48,54,95,48,50] 421) none (.ref 214) (.none) 0),#[]⟩
noncomputable def o216 (P:Params):Obj:=⟨.type "tuple",none,.seq #[] 0,#[]⟩
noncomputable def o219 (P:Params):Obj:=⟨.type "code",none,.fields #[st [95,108,97,119,95,111,114,100,101,114,115] 457,st [95,108,97,119,95,111,114,100,101,114,115] 458,st [47,99,108,97,105,109,47,99,117,116,46,112,121] 459,.int (147) 0,.int (0) 0,.int (0) 0,.int (0) 0,.int (3) 0,.ref 216,.bool true,.int (181) 0,.ref 217,.none,.none,.none,.ref 218,.int (460) 0,.int (147) 0,st [47,99,108,97,105,109,47,99,117,116,46,112,121] 461],#[]⟩
noncomputable def o220 (P:Params):Obj:=⟨.type "function",none,.func (fnD (defAt 16 none) ⟨#[95,108,97,119,95,111,114,100,101,114,115]⟩ ⟨#[95,108,97,119,95,111,114,100,101,114,115]⟩ 3 [] (.none) (.none) (.none) (st [108,97,119,95,120,114,48,48,48,54,95,48,50] 421) none (.ref 219) (.none) 0),#[]⟩
noncomputable def o221 (P:Params):Obj:=⟨.type "tuple",none,.seq #[] 0,#[]⟩
noncomputable def o224 (P:Params):Obj:=⟨.type "code",none,.fields #[st [95,108,97,119,95,108,101,102,116] 463,st [95,108,97,119,95,108,101,102,116] 464,st [47,99,108,97,105,109,47,99,117,116,46,112,121] 465,.int (152) 0,.int (5) 0,.int (0) 0,.int (0) 0,.int (3) 0,.ref 221,.bool true,.int (181) 0,.ref 222,.none,.none,.none,.ref 223,.int (466) 0,.int (152) 0,st [47,99,108,97,105,109,47,99,117,116,46,112,121] 467],#[]⟩
noncomputable def o225 (P:Params):Obj:=⟨.type "function",none,.func (fnD (defAt 17 none) ⟨#[95,108,97,119,95,108,101,102,116]⟩ ⟨#[95,108,97,119,95,108,101,102,116]⟩ 3 [] (.none) (.none) (.none) (st [108,97,119,95,120,114,48,48,48,54,95,48,50] 421) none (.ref 224) (.none) 0),#[]⟩
noncomputable def o226 (P:Params):Obj:=⟨.type "tuple",none,.seq #[] 0,#[]⟩
noncomputable def o229 (P:Params):Obj:=⟨.type "code",none,.fields #[st [95,108,97,119,95,114,105,110,103,115] 469,st [95,108,97,119,95,114,105,110,103,115] 470,st [47,99,108,97,105,109,47,99,117,116,46,112,121] 471,.int (170) 0,.int (4) 0,.int (0) 0,.int (0) 0,.int (3) 0,.ref 226,.bool true,.int (181) 0,.ref 227,.none,.none,.none,.ref 228,.int (472) 0,.int (170) 0,st [47,99,108,97,105,109,47,99,117,116,46,112,121] 473],#[]⟩
noncomputable def o230 (P:Params):Obj:=⟨.type "function",none,.func (fnD (defAt 18 none) ⟨#[95,108,97,119,95,114,105,110,103,115]⟩ ⟨#[95,108,97,119,95,114,105,110,103,115]⟩ 3 [] (.none) (.none) (.none) (st [108,97,119,95,120,114,48,48,48,54,95,48,50] 421) none (.ref 229) (.none) 0),#[]⟩
noncomputable def o231 (P:Params):Obj:=⟨.type "tuple",none,.seq #[] 0,#[]⟩
noncomputable def o234 (P:Params):Obj:=⟨.type "code",none,.fields #[st [108,97,119] 475,st [108,97,119] 476,st [47,99,108,97,105,109,47,99,117,116,46,112,121] 477,.int (188) 0,.int (1) 0,.int (0) 0,.int (0) 0,.int (3) 0,.ref 231,.bool true,.int (181) 0,.ref 232,.none,.none,.none,.ref 233,.int (478) 0,.int (188) 0,st [47,99,108,97,105,109,47,99,117,116,46,112,121] 479],#[]⟩
noncomputable def o235 (P:Params):Obj:=⟨.type "function",none,.func (fnD (defAt 19 none) ⟨#[108,97,119]⟩ ⟨#[108,97,119]⟩ 3 [] (.none) (.none) (.none) (st [108,97,119,95,120,114,48,48,48,54,95,48,50] 421) none (.ref 234) (.none) 0),#[]⟩
noncomputable def ktP (P:Params):KT:=(.node (some (o0 P)) (.node (some (o1 P)) (.node (some (o3 P)) (.node (some (o7 P)) (.node (some (o15 P)) (.node (some (o31 P)) (.node none (.node (some (o127 P)) .nil .nil) .nil) (.node (some (o95 P)) (.node (some (o159 P)) .nil .nil) .nil)) (.node (some (o47 P)) (.node (some (o79 P)) (.node (some (o143 P)) .nil .nil) (.node (some (o207 P)) .nil .nil)) .nil)) (.node none (.node (some (o39 P)) (.node (some (o71 P)) .nil (.node (some (o199 P)) .nil .nil)) (.node (some (o103 P)) (.node (some (o167 P)) .nil .nil) (.node (some (o231 P)) .nil .nil))) (.node (some (o55 P)) (.node (some (o87 P)) .nil (.node (some (o215 P)) .nil .nil)) (.node (some (o119 P)) (.node (some (o183 P)) .nil .nil) .nil)))) (.node (some (o11 P)) (.node none (.node (some (o35 P)) (.node (some (o67 P)) (.node (some (o131 P)) .nil .nil) (.node (some (o195 P)) .nil .nil)) (.node (some (o99 P)) (.node (some (o163 P)) .nil .nil) .nil)) (.node none (.node (some (o83 P)) .nil (.node (some (o211 P)) .nil .nil)) (.node (some (o115 P)) .nil .nil))) (.node none (.node none (.node (some (o75 P)) (.node (some (o139 P)) .nil .nil) (.node (some (o203 P)) .nil .nil)) (.node none (.node (some (o171 P)) .nil .nil) (.node (some (o235 P)) .nil .nil))) (.node none (.node (some (o91 P)) .nil (.node (some (o219 P)) .nil .nil)) (.node none (.node (some (o187 P)) .nil .nil) .nil))))) (.node (some (o5 P)) (.node (some (o9 P)) (.node (some (o17 P)) (.node none (.node (some (o65 P)) .nil (.node none .nil .nil)) (.node (some (o97 P)) .nil (.node (some (o225 P)) .nil .nil))) (.node (some (o49 P)) (.node none (.node (some (o145 P)) .nil .nil) (.node (some (o209 P)) .nil .nil)) (.node (some (o113 P)) (.node (some (o177 P)) .nil .nil) .nil))) (.node (some (o25 P)) (.node (some (o41 P)) .nil (.node none (.node (some (o169 P)) .nil .nil) .nil)) (.node (some (o57 P)) (.node (some (o89 P)) .nil .nil) (.node none (.node (some (o185 P)) .nil .nil) .nil)))) (.node (some (o13 P)) (.node (some (o21 P)) (.node (some (o37 P)) (.node (some (o69 P)) .nil (.node (some (o197 P)) .nil .nil)) (.node (some (o101 P)) .nil (.node (some (o229 P)) .nil .nil))) (.node (some (o53 P)) (.node none (.node (some (o149 P)) .nil .nil) .nil) (.node none (.node (some (o181 P)) .nil .nil) .nil))) (.node none (.node (some (o45 P)) (.node (some (o77 P)) .nil .nil) (.node none (.node (some (o173 P)) .nil .nil) .nil)) (.node (some (o61 P)) (.node none (.node (some (o157 P)) .nil .nil) (.node (some (o221 P)) .nil .nil)) (.node none (.node (some (o189 P)) .nil .nil) .nil)))))) (.node (some (o2 P)) (.node (some (o4 P)) (.node none (.node none (.node (some (o32 P)) (.node (some (o64 P)) (.node (some (o128 P)) .nil .nil) (.node (some (o192 P)) .nil .nil)) (.node none (.node (some (o160 P)) .nil .nil) (.node (some (o224 P)) .nil .nil))) (.node none (.node (some (o80 P)) .nil .nil) (.node none (.node (some (o176 P)) .nil .nil) .nil))) (.node none (.node none (.node (some (o72 P)) .nil .nil) .nil) (.node none (.node none .nil (.node (some (o216 P)) .nil .nil)) (.node none (.node (some (o184 P)) .nil .nil) .nil)))) (.node none (.node (some (o20 P)) (.node none (.node (some (o68 P)) .nil .nil) (.node (some (o100 P)) (.node (some (o164 P)) .nil .nil) .nil)) (.node (some (o52 P)) (.node (some (o84 P)) (.node (some (o148 P)) .nil .nil) .nil) (.node (some (o116 P)) (.node (some (o180 P)) .nil .nil) .nil))) (.node none (.node (some (o44 P)) (.node (some (o76 P)) (.node (some (o140 P)) .nil .nil) (.node (some (o204 P)) .nil .nil)) .nil) (.node (some (o60 P)) (.node (some (o92 P)) .nil (.node (some (o220 P)) .nil .nil)) (.node none (.node (some (o188 P)) .nil .nil) .nil))))) (.node (some (o6 P)) (.node (some (o10 P)) (.node (some (o18 P)) (.node (some (o34 P)) (.node none .nil (.node (some (o194 P)) .nil .nil)) (.node (some (o98 P)) (.node (some (o162 P)) .nil .nil) (.node (some (o226 P)) .nil .nil))) (.node (some (o50 P)) (.node (some (o82 P)) (.node (some (o146 P)) .nil .nil) (.node (some (o210 P)) .nil .nil)) (.node (some (o114 P)) (.node (some (o178 P)) .nil .nil) .nil))) (.node none (.node (some (o42 P)) (.node (some (o74 P)) (.node (some (o138 P)) .nil .nil) (.node (some (o202 P)) .nil .nil)) (.node (some (o106 P)) (.node (some (o170 P)) .nil .nil) (.node (some (o234 P)) .nil .nil))) (.node (some (o58 P)) (.node (some (o90 P)) .nil .nil) (.node none (.node (some (o186 P)) .nil .nil) .nil)))) (.node (some (o14 P)) (.node (some (o22 P)) (.node (some (o38 P)) (.node none .nil (.node (some (o198 P)) .nil .nil)) (.node (some (o102 P)) (.node (some (o166 P)) .nil .nil) (.node (some (o230 P)) .nil .nil))) (.node (some (o54 P)) (.node (some (o86 P)) .nil (.node (some (o214 P)) .nil .nil)) .nil)) (.node (some (o30 P)) (.node (some (o46 P)) (.node none .nil (.node (some (o206 P)) .nil .nil)) (.node none (.node (some (o174 P)) .nil .nil) .nil)) (.node (some (o62 P)) (.node (some (o94 P)) .nil .nil) (.node (some (o126 P)) .nil .nil)))))))
noncomputable def ktL:List Nat:=[0,1,2,3,4,5,6,7,9,10,11,13,14,15,17,18,20,21,22,25,30,31,32,34,35,37,38,39,41,42,44,45,46,47,49,50,52,53,54,55,57,58,60,61,62,64,65,67,68,69,71,72,74,75,76,77,79,80,82,83,84,86,87,89,90,91,92,94,95,97,98,99,100,101,102,103,106,113,114,115,116,119,126,127,128,131,138,139,140,143,145,146,148,149,157,159,160,162,163,164,166,167,169,170,171,173,174,176,177,178,180,181,183,184,185,186,187,188,189,192,194,195,197,198,199,202,203,204,206,207,209,210,211,214,215,216,219,220,221,224,225,226,229,230,231,234,235]
noncomputable def ktX:List Nat:=[63,70,193]
end Mine
end
section
open PySem PySem.W PySem.W.X
namespace Mine
noncomputable def denF:Code→Sem Fin:=PySem.W.Fast.tw11892475500146522536 PySem.W.Fast.tw14364793385576792824
theorem denF_eq:denF=denote table:=by
  unfold denF
  rw [table_eq_tree,← PySem.W.Fast.te11892475500146522536,← PySem.W.Fast.te14364793385576792824]
noncomputable def sgr:String:= "special-get-raises"
noncomputable def parB (deq:(a b:String)→Decidable (a=b)) (P:Params) (b:Bool):Params:=
  {P with followText:=fun s=>match deq s sgr with | .isTrue _=>b | .isFalse _=>P.followText s}
theorem parB_eq {deq:(a b:String)→Decidable (a=b)} {P:Params} {b:Bool} (h:P.followText sgr=b):parB deq P b=P:=by
  unfold parB
  have:(fun s=>match deq s sgr with | .isTrue _=>b | .isFalse _=>P.followText s)=P.followText:=by
    funext s
    split
    · rename_i e _; rw [e,h]
    · rfl
  rw [this]
theorem par_TF (deq:(a b:String)→Decidable (a=b)) (P:Params):P=parB deq P true∨P=parB deq P false:=by
  cases h:P.followText sgr with
  | true=>exact .inl (parB_eq h).symm
  | false=>exact .inr (parB_eq h).symm
structure Gh where
  h₀ : Heap
  own:List Addr
  d:Drawn
  os:OsState
structure Dn where
  den:Code→Sem Fin
  par:Params
  parT:Params
  parF:Params
  kt:KT
  w:World
  deq:(a b:String)→Decidable (a=b)
noncomputable def DF (w:World):Dn:=⟨denF,w.params,parB PySem.W.S.strDecS w.params true,parB PySem.W.S.strDecS w.params false,ktP w.params,w,PySem.W.S.strDecS⟩
structure Ora where
  zs:List Int:=[]
  ss:List Str:=[]
  alts:List (Sem Fin × Sem Fin):=[]
  exs:List (List Nat):=[]
  vs:List Value:=[]
  cs:List Nat:=[]
  px:List Value:=[]
  pv:Value:= .none
  ln:Nat:=0
  sel:Eff→Nat→Nat:=fun _ N=>N
noncomputable def mkV (D:Dn) (outer:List (Code × Pos)) (det dag:Nat→Code→LT→Nat→Nat→Nat→Nat→Option DetR) (ids:List Nat) (g:Gh) (r:Ora:={}):Cfg:=
  {sel:=r.sel,exs:=r.exs,zs:=r.zs,ss:=r.ss,alts:=r.alts,prog:=pw,w:=D.w,den:=D.den,par:=D.par,parT:=D.parT,parF:=D.parF,kt:=D.kt,outer,det,dag,ids,h₀ :=g.h₀,own:=g.own,d:=g.d,os:=g.os}
noncomputable def noDet:Nat→Code→LT→Nat→Nat→Nat→Nat→Option DetR:=fun _ _ _ _ _ _ _=>none
noncomputable def mkT:Nat→LT→List (Addr × Obj)→LT
  | _,T,[]=>T
  | n,T,(a,o) :: r=>mkT (n+1) (T.ins n a o) r
structure Init where
  V:Cfg
  T:LT
  m:Nat
  base:Nat
  off:Nat
  tk:Nat
  gb:Nat
  gl:List GenState
  c:Code
  p:Pos
noncomputable def Init.run (i:Init) (fuel N:Nat):Out:=simM i.V fuel N i.T i.m i.base i.off i.tk i.gb i.gl [] [] [] [] [] i.c i.p [] (i.V.den i.c)
end Mine
end
section
open PySem PySem.W PySem.W.X PySem.Calls PyProof.Rows PySem.SeqAt
namespace Mine
inductive call_det_r (prog:Program) (w:World) (f:Value) (args:List Value) (Q:Value→Shared→Prop) (s:Shared) (p:Pos) (k:Result→Sem Fin) (g:Bool) (l:List Value) (c₀ : Code) (st:List Frame):Prop
  | mk : ∀ s' c' p' v,(Comes (model prog w) s ⟨(model prog w).den (.call f ⟨args,[]⟩), .call f ⟨args,[]⟩,p, .ret k none g l c₀ p [] :: st⟩ s' ⟨leafOf (.ok (.ret v)),c',p', .ret k none g l c₀ p [] :: st⟩)→(Q v s')→call_det_r prog w f args Q s p k g l c₀ st
theorem call_det {prog:Program} {w:World} {f:Value} {args:List Value} {Q:Value→Shared→Prop} {s:Shared} {p:Pos} {k:Result→Sem Fin} {g:Bool} {l:List Value} {c₀ : Code} {st:List Frame}
    (h : ∀ A:Around,A.handled=topHandled st→A.units=unitsOf ((c₀,p) :: st.map Frame.where_)→wpAny (model prog w) A (call f args) Q (fun _ _=>False) s):call_det_r prog w f args Q s p k g l c₀ st:=by
  have hf:=Ctx.fits_of c₀ st
  have hin:(Ctx.of c₀ st).In {handled:=topHandled st,depth:=frameCount (st.map Frame.where_)+c₀.weight,frames:=none,guards:=none,units:=unitsOf ((c₀,p) :: st.map Frame.where_)}:=
    ⟨rfl,Nat.le_refl _,fun l hl=>(nomatch hl),fun g hg=>(nomatch hg),by rw [unitsOf_cons]; exact Nat.le_refl _⟩
  have z:=h _ rfl rfl _ p hin
  have z' : Sem.wp (model prog w) (Ctx.of c₀ st) (runValue (.call f ⟨args,[]⟩)) (fun a _ s' => Q a s') (fun _ _ _=>False) p s:=z
  rw [Sem.wp_runValue] at z'
  obtain ⟨r,s₁,hr,hq⟩:=z'
  obtain ⟨t',c',p',pre',hc₁,hx⟩:=(runs_reach hr _ (hf.enter _ k none g l p [])).comes
  obtain ⟨rfl,rfl⟩:=hx
  cases r with
  | error e=>exact hq.elim
  | ok fl =>
    cases fl with
    | ret v=>exact ⟨s₁,c',p',v,hc₁,hq⟩
    | _=>exact hq.elim
noncomputable def eqV:Value→Value→Option Bool
  | .int a _, .int b _=>some (a == b)
  | .str a _, .str b _=>some (a.cps.toList == b.cps.toList)
  | _,_=>none
noncomputable def allEq (x:Value):List Value→Bool
  | []=>true
  | y :: r=>match eqV y x with | some _=>allEq x r | none=>false
noncomputable def anyEq (x:Value):List Value→Bool
  | []=>false
  | y :: r=>match eqV y x with | some true=>true | _=>anyEq x r
noncomputable def idxEq (x:Value):Nat→List Value→Option Nat
  | _,[]=>none
  | i,y :: r=>match eqV y x with | some true=>some i | some false=>idxEq x (i+1) r | none=>none
noncomputable def zipEq:List Value→List Value→Option Bool
  | [],[]=>some true
  | x :: r,y :: q=>match eqV x y with | some true=>zipEq r q | some false=>(match zipEq r q with | some _=>some false | none=>none) | none=>none
  | _,_=>none
theorem eqV_at {A:Around} {s:Shared} {y x:Value} {b:Bool} (h:eqV y x=some b):EqAt A s y x b:=by
  unfold eqV at h
  split at h
  · cases h; exact EqAt.int_int _ _ _ _
  · cases h; rw [str_beq]; exact EqAt.str_str _ _ _ _
  · cases h
noncomputable abbrev eV (x y:Value):Bool:=(eqV y x).getD false
theorem allEq_at {A:Around} {s:Shared} {x:Value} : ∀ {l:List Value},allEq x l=true → ∀ y∈l,EqAt A s y x (eV x y)
  | [],_,_,h=>nomatch h
  | z :: l,h,y,hy=>by
    unfold allEq at h
    split at h
    · rename_i b q
      rcases List.mem_cons.mp hy with rfl | hy
      · rw [eV,q]; exact eqV_at q
      · exact allEq_at h y hy
    · cases h
theorem anyEq_eq {x:Value} : ∀ {l:List Value},anyEq x l=l.any (eV x)
  | []=>rfl
  | z :: l=>by
    unfold anyEq
    rw [List.any_cons]
    split
    · rename_i q; rw [eV,q]; rfl
    · rename_i q
      have:eV x z=false:=by
        unfold eV
        cases z' : eqV z x with
        | none=>rfl
        | some b=>cases b with
          | false=>rfl
          | true=>exact absurd z' q
      rw [this,Bool.false_or]; exact anyEq_eq
noncomputable def isL (deq:(a b:String)→Decidable (a=b)) (n:String) (o:Obj):Option (List Value):=match o.cls with
  | .type t=>match deq t n with
    | .isTrue _=>match o.data with
      | .seq xs _=>some xs.toList
      | _=>none
    | .isFalse _=>none
  | _=>none
theorem isL_some {deq} {n:String} {o:Obj} {xs:List Value} (h:isL deq n o=some xs) : ∃ k,o={cls:= .type n,dict:=o.dict,data:= .seq xs.toArray k,slots:=o.slots}:=by
  unfold isL at h
  split at h
  · rename_i t ht
    split at h
    · rename_i e _
      split at h
      · rename_i ys k hd
        cases h
        cases o
        simp only at ht hd
        subst e ht hd
        exact ⟨k,rfl⟩
      · cases h
    · cases h
  · cases h
noncomputable def rIdx (n:Nat) (T:LT):Option (Addr × Obj):=match n with | 0=>none | i+1=>T.get i
theorem DEff.same {x:DetR} {a:Nat} {s:Shared} (h1:x.al=[]) (h2:x.upd=[]) (hs:s.heap.objs.size=a) (ht:s.toks=x.tk):DEff x a s s:=
  ⟨by rw [h1]; exact hs,by rw [h2]; exact fun _ q=>(nomatch q),by rw [h1]; exact fun _ _ q=>(nomatch q),by rw [h2]; exact List.nodup_nil,fun _ _ h _=>h,ht,rfl,rfl,rfl⟩
theorem DEff.tok {x:DetR} {a n:Nat} {s:Shared} (h1:x.al=[]) (h2:x.upd=[]) (hs:s.heap.objs.size=a) (ht:n=x.tk):DEff x a s {s with toks:=n}:=
  ⟨by rw [h1]; exact hs,by rw [h2]; exact fun _ q=>(nomatch q),by rw [h1]; exact fun _ _ q=>(nomatch q),by rw [h2]; exact List.nodup_nil,fun _ _ h _=>h,ht,rfl,rfl,rfl⟩
noncomputable def Det1 (V:Cfg) (f:Code→LT→Nat→Nat→Nat→Nat→Option DetR):Prop:= ∀ c T n₁ n₂ tk a x,f c T n₁ n₂ tk a=some x→(∀ c∈x.cond,c)→(∀ e∈x.eqs,e.1=e.2)→updA x.upd=updB T x.upd → ∀ s p k g l c₀ st,Lk V T s→s.toks=tk→s.heap.objs.size=a →
  (x.room=true→unitsOf ((c₀,p) :: st.map Frame.where_)<9000) →
  ∃ s' c' p',Comes V.M s ⟨V.M.den c,c,p, .ret k none g l c₀ p [] :: st⟩ s' ⟨leafOf x.r,c',p', .ret k none g l c₀ p [] :: st⟩∧DEff x a s s'
noncomputable def cCall (deq:(a b:String)→Decidable (a=b)) (id:String):Code→Option (List Value)
  | .call (.builtin i) ⟨ps,[]⟩=>match deq i id with | .isTrue _=>some ps | .isFalse _=>none
  | _=>none
theorem cCall_some {deq} {id:String} {c:Code} {ps:List Value} (h:cCall deq id c=some ps):c = .call (.builtin id) ⟨ps,[]⟩:=by
  unfold cCall at h
  split at h
  · split at h
    · rename_i e _; cases h; rw [e]
    · cases h
  · cases h
noncomputable def cBlt (deq:(a b:String)→Decidable (a=b)) (id:String):Code→Option (List Value)
  | .builtin i ⟨ps,[]⟩=>match deq i id with | .isTrue _=>some ps | .isFalse _=>none
  | _=>none
theorem cBlt_some {deq} {id:String} {c:Code} {ps:List Value} (h:cBlt deq id c=some ps):c = .builtin id ⟨ps,[]⟩:=by
  unfold cBlt at h
  split at h
  · split at h
    · rename_i e _; cases h; rw [e]
    · cases h
  · cases h
theorem bind_some {α β : Type} {x:Option α} {f : α → Option β} {b : β} (h:x.bind f=some b) : ∃ a,x=some a∧f a=some b:=by
  cases x with
  | none=>cases h
  | some a=>exact ⟨a,rfl,h⟩
noncomputable def OB {α : Type} (P : α → Prop):Option α → Prop | none=>True | some x=>P x
theorem OB.bind {α β : Type} {P : β → Prop} {x:Option α} {f : α → Option β} (k : ∀ a,x=some a→OB P (f a)):OB P (x.bind f):=by
  cases x with
  | none=>trivial
  | some a=>exact k a rfl
theorem OB.bind2 {α δ β : Type} {P : β → Prop} {x:Option (α × δ)} {f : α × δ → Option β} (k : ∀ a b,x=some (a,b)→OB P (f (a,b))):OB P (x.bind f):=OB.bind fun _ h=>k _ _ h
theorem OB.bind3 {α δ ε β : Type} {P : β → Prop} {x:Option (α × δ × ε)} {f : α × δ × ε → Option β} (k : ∀ a b c,x=some (a,b,c)→OB P (f (a,b,c))):OB P (x.bind f):=OB.bind fun _ h=>k _ _ _ h
theorem OB.bind4 {α δ ε ζ β : Type} {P : β → Prop} {x:Option (α × δ × ε × ζ)} {f : α × δ × ε × ζ → Option β} (k : ∀ a b c d,x=some (a,b,c,d)→OB P (f (a,b,c,d))):OB P (x.bind f):=OB.bind fun _ h=>k _ _ _ _ h
theorem OB.bind6 {α δ ε ζ η θ β : Type} {P : β → Prop} {x:Option (α × δ × ε × ζ × η × θ)} {f : α × δ × ε × ζ × η × θ → Option β} (k : ∀ a b c d e g,x=some (a,b,c,d,e,g)→OB P (f (a,b,c,d,e,g))):OB P (x.bind f):=OB.bind fun _ h=>k _ _ _ _ _ _ h
theorem OB.get {α : Type} {P : α → Prop} {o:Option α} {x : α} (h:OB P o) (e:o=some x):P x:=by rw [e] at h; exact h
noncomputable def CondP (x:DetR) (T:LT) (P:Prop):Prop:=(∀ c∈x.cond,c)→(∀ e∈x.eqs,e.1=e.2)→updA x.upd=updB T x.upd→P
noncomputable def gd (b:Bool):Option Unit:=cond b (some ()) none
theorem gd_some {b:Bool} {u} (h:gd b=some u):b=true:=by cases b; cases h; rfl
noncomputable def gdn (b:Bool):Option Unit:=cond b none (some ())
theorem gdn_some {b:Bool} {u} (h:gdn b=some u):b=false:=by cases b; rfl; cases h
noncomputable def DetP (V:Cfg) (s:Shared) (T:LT) (a:Nat) (c:Code) (x:DetR):Prop:=CondP x T (∃ g args v,c = .call g ⟨args,[]⟩∧x.r = .ok (.ret v) ∧ ∀ A:Around,wpAny (model V.prog V.w) A (call g args) (fun v' s' => v' = v∧DEff x a s s') (fun _ _=>False) s)
theorem det_intro {V:Cfg} {f:Code→LT→Nat→Nat→Nat→Nat→Option DetR}
    (H : ∀ c T n₁ n₂ tk a s,Lk V T s→s.toks=tk→s.heap.objs.size=a→OB (DetP V s T a c) (f c T n₁ n₂ tk a)):Det1 V f:=by
  intro c T n₁ n₂ tk a x h hc he hu s p k g l c₀ st L ht ha _
  obtain ⟨g',args,v,rfl,hr,hw⟩:=(H c T n₁ n₂ tk a s L ht ha).get h hc he hu
  obtain ⟨s',c',p',v',hcm,rfl,hD⟩:=call_det (prog:=V.prog) (w:=V.w) (f:=g') (args:=args) (s:=s) (p:=p) (k:=k) (g:=g) (l:=l) (c₀ :=c₀) (st:=st) (fun A _ _=>hw A)
  rw [hr]
  exact ⟨s',c',p',hcm,hD⟩
noncomputable def pRV:List Value→Option (Addr × Value) | [.ref a,v]=>some (a,v) | _=>none
theorem pRV_some {ps:List Value} {q} (h:pRV ps=some q):ps=[.ref q.1,q.2]:=by
  unfold pRV at h; split at h <;> cases h; rfl
noncomputable def pRR:List Value→Option (Addr × Addr) | [.ref a, .ref b]=>some (a,b) | _=>none
theorem pRR_some {ps:List Value} {q} (h:pRR ps=some q):ps=[.ref q.1, .ref q.2]:=by
  unfold pRR at h; split at h <;> cases h; rfl
theorem lk_at {V:Cfg} {T:LT} {s:Shared} (L:Lk V T s) {n:Nat} {b:Addr} {o:Obj} (hb:rIdx n T=some (b,o)):s.heap.get? b=some o:=by
  unfold rIdx at hb
  split at hb
  · cases hb
  · exact L.at' _ _ _ hb
theorem idxEq_some {x:Value} : ∀ {l:List Value} {i j:Nat},idxEq x i l=some j → ∃ (m:Nat) (hm:m<l.length),j=i+m∧eV x l[m]=true ∧ ∀ (q:Nat) (hq:q<l.length),q<m→eV x l[q]=false
  | [],i,j,h=>by cases h
  | y :: r,i,j,h=>by
    unfold idxEq at h
    split at h
    · rename_i q
      cases h
      exact ⟨0,Nat.zero_lt_succ _,rfl,by show eV x y=true; rw [eV,q]; rfl,fun q hq h=>absurd h (Nat.not_lt_zero _)⟩
    · rename_i q
      obtain ⟨m,hm,e,h1,h2⟩:=idxEq_some h
      refine ⟨m+1,Nat.succ_lt_succ hm,by lia,h1,fun n hn hlt => ?_⟩
      cases n with
      | zero=>show eV x y=false; rw [eV,q]; rfl
      | succ n=>exact h2 n (Nat.lt_of_succ_lt_succ hn) (Nat.lt_of_succ_lt_succ hlt)
    · cases h
theorem zipEq_some : ∀ {l q:List Value} {b:Bool},zipEq l q=some b→l.length=q.length∧(∀ (j:Nat) (h1:j<l.length) (h2:j<q.length),eqV l[j] q[j]=some (eV q[j] l[j]))∧b=(List.range l.length).all (fun j=>((do let x ← l[j]?; let y ← q[j]?; eqV x y):Option Bool).getD false)
  | [],[],b,h=>by cases h; exact ⟨rfl,fun _ q=>(nomatch q),rfl⟩
  | x :: r,y :: q,b,h=>by
    unfold zipEq at h
    split at h
    · rename_i e
      obtain ⟨h1,h2,h3⟩:=zipEq_some h
      refine ⟨congrArg (· + 1) h1,fun j hj hj' => ?_, ?_⟩
      · cases j with
        | zero=>show eqV x y=some (eV y x); rw [eV,e]; rfl
        | succ j=>exact h2 j (Nat.lt_of_succ_lt_succ hj) (Nat.lt_of_succ_lt_succ hj')
      · rw [h3,List.length_cons,List.range_succ_eq_map,List.all_cons,List.all_map]
        have:((do let x ← (x :: r)[0]?; let y ← (y :: q)[0]?; eqV x y):Option Bool).getD false=true:=by show (eqV x y).getD false=true; rw [e]; rfl
        rw [this,Bool.true_and]; rfl
    · rename_i e
      split at h
      · rename_i b' e2
        cases h
        obtain ⟨h1,h2,h3⟩:=zipEq_some e2
        refine ⟨congrArg (· + 1) h1,fun j hj hj' => ?_, ?_⟩
        · cases j with
          | zero=>show eqV x y=some (eV y x); rw [eV,e]; rfl
          | succ j=>exact h2 j (Nat.lt_of_succ_lt_succ hj) (Nat.lt_of_succ_lt_succ hj')
        · rw [List.length_cons,List.range_succ_eq_map,List.all_cons]
          have:((do let x ← (x :: r)[0]?; let y ← (y :: q)[0]?; eqV x y):Option Bool).getD false=false:=by show (eqV x y).getD false=false; rw [e]; rfl
          rw [this,Bool.false_and]
      · cases h
    · cases h
noncomputable def detContains (deq:(a b:String)→Decidable (a=b)) (c:Code) (T:LT) (n₁ tk:Nat):Option DetR:=(cCall deq "list.__contains__" c).bind fun ps=>(pRV ps).bind fun q=>(rIdx n₁ T).bind fun b=>(isL deq "list" b.2).bind fun xs=>(gd (allEq q.2 xs)).bind fun _ =>
  some ⟨.ok (.ret (.bool (anyEq q.2 xs))),tk,[],[],[],[(q.1,b.1)],false⟩
theorem detContains_ok (V:Cfg) (deq):Det1 V (fun c T n₁ _ tk _=>detContains deq c T n₁ tk):=det_intro fun c T n₁ n₂ tk a s L ht ha=>by
  refine OB.bind fun ps h1 => ?_
  refine OB.bind2 fun l y h2 => ?_
  refine OB.bind2 fun b o h3 => ?_
  refine OB.bind fun xs h4 => ?_
  refine OB.bind fun _ h5 => ?_
  refine fun hc he hu => ?_
  rw [pRV_some h2] at h1
  have e1:l=b:=he (l,b) (.head _)
  subst e1
  obtain ⟨kk,ho⟩:=isL_some (o:=o) h4
  have hg:=lk_at L h3
  rw [ho] at hg
  have hA:allEq y xs=true:=gd_some h5
  refine ⟨_,_,_,cCall_some h1,rfl,fun A => ?_⟩
  refine call_meets PySem.F.slot_list_contains ⟨_,hg,rfl⟩ PySem.F.entry_list_contains (PySem.F.args_list_contains_2 _ _) (list_containsAt l xs.toArray kk _ _ y (eV y)) ⟨hg,fun z hz=>allEq_at hA z (by simpa using hz), ?_⟩
  exact ⟨by rw [anyEq_eq]; simp,DEff.same rfl rfl ha ht⟩
noncomputable def detIndex (deq:(a b:String)→Decidable (a=b)) (c:Code) (T:LT) (n₁ tk:Nat):Option DetR:=(cCall deq "list.index" c).bind fun ps=>(pRV ps).bind fun q=>(rIdx n₁ T).bind fun b=>(isL deq "list" b.2).bind fun xs=>(gd (allEq q.2 xs)).bind fun _=>(idxEq q.2 0 xs).bind fun j=>(gd (Nat.blt j 1000)).bind fun _ =>
  some ⟨.ok (.ret (.int (Int.ofNat j) tk)),tk+1,[],[],[],[(q.1,b.1)],false⟩
theorem detIndex_ok (V:Cfg) (deq):Det1 V (fun c T n₁ _ tk _=>detIndex deq c T n₁ tk):=det_intro fun c T n₁ n₂ tk a s L ht ha=>by
  refine OB.bind fun ps h1 => ?_
  refine OB.bind2 fun l y h2 => ?_
  refine OB.bind2 fun b o h3 => ?_
  refine OB.bind fun xs h4 => ?_
  refine OB.bind fun _ h5 => ?_
  refine OB.bind fun j h6 => ?_
  refine OB.bind fun _ h7 => ?_
  refine fun hc he hu => ?_
  rw [pRV_some h2] at h1
  have e1:l=b:=he (l,b) (.head _)
  subst e1
  obtain ⟨kk,ho⟩:=isL_some (o:=o) h4
  have hg:=lk_at L h3
  rw [ho] at hg
  have hA:allEq y xs=true:=gd_some h5
  obtain ⟨m,hm,e,g1,g2⟩:=idxEq_some (x:=y) h6
  have e' : j=m:=by rw [e,Nat.zero_add]
  subst e'
  have hlt' : j<1000:=Nat.le_of_ble_eq_true (gd_some h7)
  refine ⟨_,_,_,cCall_some h1,rfl,fun A => ?_⟩
  refine call_meets PySem.F.slot_list_index ⟨_,hg,rfl⟩ PySem.F.entry_list_index (PySem.F.args_list_index_2 _ _) (list_indexAt l xs.toArray kk _ _ y (eV y) j (by simpa using hm) (by lia) (by simpa using g1) (fun q hq hqj=>by simpa using g2 q (by simpa using hq) hqj)) ⟨hg,fun z hz=>allEq_at hA z (by simpa using hz), ?_⟩
  exact ⟨by rw [ht]; rfl,DEff.tok rfl rfl ha (by rw [ht])⟩
noncomputable def detTupNe (deq:(a b:String)→Decidable (a=b)) (c:Code) (T:LT) (n₁ n₂ tk:Nat):Option DetR:=(cCall deq "tuple.__ne__" c).bind fun ps=>(pRR ps).bind fun q=>(rIdx n₁ T).bind fun b=>(isL deq "tuple" b.2).bind fun xs=>(rIdx n₂ T).bind fun b' => (isL deq "tuple" b'.2).bind fun ys=>(zipEq xs ys).bind fun r =>
  some ⟨.ok (.ret (.bool (!r))),tk,[],[],[],[(q.1,b.1),(q.2,b'.1)],false⟩
theorem zip_get {xs ys:List Value} {j:Nat} (q1:j<xs.length) (q2:j<ys.length):((do let x ← xs[j]?; let y ← ys[j]?; eqV x y):Option Bool)=eqV xs[j] ys[j]:=by
  rw [List.getElem?_eq_getElem q1,List.getElem?_eq_getElem q2]; rfl
theorem detTupNe_ok (V:Cfg) (deq):Det1 V (fun c T n₁ n₂ tk _=>detTupNe deq c T n₁ n₂ tk):=det_intro fun c T n₁ n₂ tk a s L ht ha=>by
  refine OB.bind fun ps h1 => ?_
  refine OB.bind2 fun l m h2 => ?_
  refine OB.bind2 fun b o h3 => ?_
  refine OB.bind fun xs h4 => ?_
  refine OB.bind2 fun b' o' h5 => ?_
  refine OB.bind fun ys h6 => ?_
  refine OB.bind fun r h7 => ?_
  refine fun hc he hu => ?_
  rw [pRR_some h2] at h1
  have e1:l=b:=he (l,b) (.head _)
  have e2:m=b' :=he (m,b') (.tail _ (.head _))
  subst e1 e2
  obtain ⟨kk,ho⟩:=isL_some (o:=o) h4
  obtain ⟨kk',ho'⟩:=isL_some (o:=o') h6
  have hg:=lk_at L h3
  have hg' :=lk_at L h5
  rw [ho] at hg
  rw [ho'] at hg'
  obtain ⟨z1,z2,z3⟩:=zipEq_some h7
  refine ⟨_,_,_,cCall_some h1,rfl,fun A => ?_⟩
  refine call_meets PySem.F.slot_tuple_ne ⟨_,hg,rfl⟩ PySem.F.entry_tuple_ne (PySem.F.args_tuple_ne_2 _ _) (tuple_neAt l m xs.toArray ys.toArray kk kk' _ _ _ _ (fun j=>((do let x ← xs[j]?; let y ← ys[j]?; eqV x y):Option Bool).getD false)) ⟨hg,hg',fun j hj hj' => ?_, ?_⟩
  · have q1:j<xs.length:=by simpa using hj
    have q2:j<ys.length:=by simpa using hj'
    rw [zip_get q1 q2,z2 j q1 q2]
    exact eqV_at (by simpa using z2 j q1 q2)
  · refine ⟨?_,DEff.same rfl rfl ha ht⟩
    rw [z3]
    simp [z1]
end Mine
end
section
open PySem PySem.W PySem.W.X PySem.Calls PyProof.Rows PySem.SeqAt
namespace Mine
inductive code_det_r (M:Model) (c:Code) (R:Result→Shared→Prop) (s:Shared) (p:Pos) (st:List Frame):Prop
  | mk : ∀ s' c' p' r,(Comes M s ⟨M.den c,c,p,st⟩ s' ⟨leafOf r,c',p',st⟩)→(R r s')→code_det_r M c R s p st
theorem code_det {M:Model} {c:Code} {R:Result→Shared→Prop} {s:Shared} {p:Pos} {st:List Frame}
    (h : ∀ A:Around,A.handled=topHandled st→codeAny M A c R s):code_det_r M c R s p st:=by
  obtain ⟨r,s₁,hr,hq⟩:=h {handled:=topHandled st,depth:=frameCount (st.map Frame.where_),frames:=none,guards:=none,units:=unitsOf (st.map Frame.where_)} rfl (Ctx.of c st) p rfl
    ⟨rfl,Nat.le_refl _,fun l hl=>(nomatch hl),fun g hg=>(nomatch hg),Nat.le_refl _⟩
  obtain ⟨t',c',p',pre',hc₁,hx⟩:=(runs_reach hr st (Ctx.fits_of c st)).comes
  obtain ⟨rfl,rfl⟩:=hx
  exact ⟨s₁,c',p',r,hc₁,hq⟩
theorem set_slice {prog:Program} {w:World} {A:Around} {s:Shared} {R:Result→Shared→Prop} {l sl b:Addr} {o:Obj} {xs ys:Array Value} {n:Nat} {vl vu vs:Value} {lo hi:Option Int}
    (ho:s.heap.get? l=some o) (hd:o.data = .seq xs n) (hb:s.heap.IsList b ys) (hs:s.heap.IsSliceOf sl vl vu vs) (pl:IsPart vl lo) (pu:IsPart vu hi) (ps:IsPart vs none) (hne:l≠b)
    (hx:xs.size≤1000) (hy:ys.size≤1000)
    (h:R (.ok (.ret .none)) {s with heap:=s.heap.update l (Obj.mapSeq fun z=>z.extract 0 (sliceBounds lo hi none xs.size).1.toNat++ys++z.extract (max (sliceBounds lo hi none xs.size).1 (sliceBounds lo hi none xs.size).2.1).toNat z.size)}) :
    codeAny (model prog w) A (.builtin "list.__setitem__" ⟨[.ref l, .ref sl, .ref b],[]⟩) R s:=by
  refine codeAny_builtin F.entry_list_setitem ?_
  rw [Around.under_plainId (by decide +kernel) _]
  obtain ⟨os,hos,hcs,hds⟩:=id hs
  have hTs:s.TypeIs (.ref sl) "slice" :=⟨os,hos,hcs⟩
  obtain ⟨ob,hob,hcb,nb,hdb⟩:=id hb
  have hTb:s.TypeIs (.ref b) "list" :=⟨ob,hob,hcb⟩
  show wpAny _ _ (Builtin.List.listSubscript? (.ref sl) >>= _) _ _ s
  refine wpAny_bind ?_
  unfold Builtin.List.listSubscript?
  refine wpAny_bind (wpAny_specialOf hTs slice_no_index ?_)
  simp only [Option.isNone_none,if_true]
  refine wpAny_pure ?_
  show wpAny _ _ (typeOf (.ref sl) >>= _) _ _ s
  refine wpAny_bind (wpAny_typeOf hTs ?_)
  rw [if_neg (by decide)]
  rw [listSliceParts_eq]
  refine wpAny_bind (wpAny_bind (wpAny_field hos hds (x:=vs) rfl (wpAny_bind (wpAny_listPart ps ?_))))
  rw [if_neg (show ¬ ((rawPart none == rawInt 0)=true) from Bool.false_ne_true)]
  refine wpAny_bind (wpAny_field hos hds (x:=vl) rfl (wpAny_bind (wpAny_listPart pl ?_)))
  refine wpAny_bind (wpAny_field hos hds (x:=vu) rfl (wpAny_bind (wpAny_listPart pu (wpAny_pure ?_))))
  have h1:Builtin.List.listSameRef (.ref l) (.ref b)=false:=by simp [Builtin.List.listSameRef,hne]
  dsimp only
  rw [if_neg (by rw [h1]; exact Bool.false_ne_true)]
  unfold Builtin.List.listAllItems
  refine wpAny_bind (wpAny_bind (wpAny_typeOf hTb ?_))
  rw [if_pos (by rfl)]
  unfold Builtin.List.listItems
  refine wpAny_bind (wpAny_seqItems hob hdb (wpAny_pure ?_))
  refine wpAny_bind (wpAny_bind (wpAny_seqItems ho hd (wpAny_pure ?_)))
  have hsi:=sliceIndices_raw lo hi none xs.size (by intro q; cases q)
  refine wpAny_bind (wpAny_of_eq hsi ?_)
  have hst:(sliceBounds lo hi none xs.size).2.2=1:=rfl
  rw [if_pos (by rw [hst]; rfl)]
  refine wpAny_bind (wpAny_rule ?_)
  rw [if_neg (by unfold Builtin.List.listTooLong; simp only [decide_eq_true_eq]; unfold sizeLine; lia)]
  unfold Builtin.List.listUpdate
  refine wpAny_bind (wpAny_updateSeq ho hd ?_ ?_ ?_)
  · refine wpAny_bind (wpAny_letGo ?_)
    exact wpAny_pure h
  · unfold sizeLine; lia
  · simp only [Array.size_append,Array.size_extract]
    unfold sizeLine; lia
noncomputable def isSl (deq:(a b:String)→Decidable (a=b)) (o:Obj):Option (Value × Value × Value):=match o.cls with
  | .type t=>match deq t "slice" with
    | .isTrue _=>match o.data with
      | .fields fs=>match fs.toList with
        | [a,b,c]=>some (a,b,c)
        | _=>none
      | _=>none
    | .isFalse _=>none
  | _=>none
theorem isSl_some {deq} {o:Obj} {a b c:Value} (h:isSl deq o=some (a,b,c)):o.cls = .type "slice" ∧ o.data = .fields #[a,b,c]:=by
  unfold isSl at h
  split at h
  · rename_i t ht
    split at h
    · rename_i e _
      split at h
      · rename_i fs hd
        split at h
        · rename_i a' b' c' hl
          cases h
          refine ⟨by rw [ht,e], ?_⟩
          rw [hd]
          congr 1
          exact Array.ext' hl
        · cases h
      · cases h
    · cases h
  · cases h
noncomputable def partOf:Value→Option (Option Int)
  | .none=>some none
  | .int i _=>some (some i)
  | _=>none
theorem partOf_some {v:Value} {k:Option Int} (h:partOf v=some k):IsPart v k:=by
  unfold partOf at h
  split at h
  · cases h; exact .none
  · cases h; exact .int _ _
  · cases h
noncomputable def seqOf (o:Obj):Option (List Value × Nat):=match o.data with
  | .seq xs n=>some (xs.toList,n)
  | _=>none
noncomputable def sliced (xs ys:List Value) (lo hi:Option Int):List Value:=
  xs.take (sliceBounds lo hi none xs.length).1.toNat++ys++xs.drop (max (sliceBounds lo hi none xs.length).1 (sliceBounds lo hi none xs.length).2.1).toNat
noncomputable def epoch (a b n:Nat):Nat:=match Nat.beq a b with | true=>n | false=>n+1
noncomputable def p3R:List Value→Option (Addr × Addr × Addr) | [.ref l, .ref m, .ref b]=>some (l,m,b) | _=>none
theorem p3R_some {ps:List Value} {q} (h:p3R ps=some q):ps=[.ref q.1, .ref q.2.1, .ref q.2.2]:=by
  unfold p3R at h; split at h <;> cases h; rfl
noncomputable def vNone:Value→Option Unit | .none=>some () | _=>none
theorem vNone_some {v:Value} {u} (h:vNone v=some u):v = .none:=by unfold vNone at h; split at h; rfl; cases h
noncomputable def dagSet (deq:(a b:String)→Decidable (a=b)) (back:Nat) (c:Code) (T:LT) (n₁ n₂ tk:Nat):Option DetR:=
  (cBlt deq "list.__setitem__" c).bind fun ps=>(p3R ps).bind fun q=>(rIdx n₁ T).bind fun o=>(seqOf o.2).bind fun xs=>(rIdx n₂ T).bind fun os=>(isSl deq os.2).bind fun v=>(rIdx (n₂ - back) T).bind fun ob=>(isL deq "list" ob.2).bind fun ys =>
  (partOf v.1).bind fun lo=>(partOf v.2.1).bind fun hi=>(vNone v.2.2).bind fun _=>(gd (Nat.blt xs.1.length 1000)).bind fun _=>(gd (Nat.blt ys.length 1000)).bind fun _=>(gdn (Nat.beq n₁ (n₂ - back))).bind fun _ =>
  some ⟨.ok (.ret .none),tk,[],[(n₁ - 1,o.1,⟨o.2.cls,o.2.dict, .seq (sliced xs.1 ys lo hi).toArray (epoch (sliced xs.1 ys lo hi).length xs.1.length xs.2),o.2.slots⟩)],[],[(q.1,o.1),(q.2.1,os.1),(q.2.2,ob.1)],false⟩
noncomputable def Dag1 (V:Cfg) (f:Code→LT→Nat→Nat→Nat→Nat→Option DetR):Prop:= ∀ c T n₁ n₂ tk a x,f c T n₁ n₂ tk a=some x→(∀ c∈x.cond,c)→(∀ e∈x.eqs,e.1=e.2)→updA x.upd=updB T x.upd → ∀ s p st,Lk V T s→s.toks=tk→s.heap.objs.size=a →
  ∃ s' c' p',Comes V.M s ⟨V.M.den c,c,p,st⟩ s' ⟨leafOf x.r,c',p',st⟩∧DEff x a s s'
theorem rIdx_get {n:Nat} {T:LT} {x:Addr × Obj} (h:rIdx n T=some x):n≠0∧T.get (n - 1)=some x:=by
  unfold rIdx at h
  split at h
  · cases h
  · exact ⟨Nat.succ_ne_zero _,h⟩
noncomputable def DagR (V:Cfg) (s:Shared) (a:Nat) (p:Pos) (st:List Frame) (T:LT) (c:Code) (x:DetR):Prop:=CondP x T (∃ s' c' p',Comes V.M s ⟨V.M.den c,c,p,st⟩ s' ⟨leafOf x.r,c',p',st⟩∧DEff x a s s')
theorem dagSet_ok (V:Cfg) (deq) (back:Nat):Dag1 V (fun c T n₁ n₂ tk _=>dagSet deq back c T n₁ n₂ tk):=by
  intro c T n₁ n₂ tk a x h hc he hu s p st L ht ha
  refine OB.get (P:=DagR V s a p st T c) ?_ h hc he hu
  clear h hc he hu
  refine OB.bind fun ps h0 => ?_
  refine OB.bind3 fun l sl b hq => ?_
  refine OB.bind2 fun l' o h1 => ?_
  refine OB.bind2 fun xs n h2 => ?_
  refine OB.bind2 fun sl' os h3 => ?_
  refine OB.bind3 fun vl vu vs h4 => ?_
  refine OB.bind2 fun b' ob h5 => ?_
  refine OB.bind fun ys h6 => ?_
  refine OB.bind fun lo h7 => ?_
  refine OB.bind fun hi h8 => ?_
  refine OB.bind fun _ h9 => ?_
  refine OB.bind fun _ h10 => ?_
  refine OB.bind fun _ h11 => ?_
  refine OB.bind fun _ h12 => ?_
  refine fun hc he hu => ?_
  rw [p3R_some hq] at h0
  rw [cBlt_some h0]
  have h9:vs = .none:=vNone_some h9
  subst h9
  have h10:Nat.blt xs.length 1000=true:=gd_some h10
  have h11:Nat.blt ys.length 1000=true:=gd_some h11
  have h12:Nat.beq n₁ (n₂ - back)=false:=gdn_some h12
  have h6:isL deq "list" ob=some ys:=h6
  have q1:l=l' :=he (l,l') (.head _)
  have q2:sl=sl' :=he (sl,sl') (.tail _ (.head _))
  have q3:b=b' :=he (b,b') (.tail _ (.tail _ (.head _)))
  subst q1 q2 q3
  have g1:=lk_at L h1
  have g2:=lk_at L h3
  have g3:=lk_at L h5
  obtain ⟨kk,hob⟩:=isL_some (o:=ob) h6
  obtain ⟨c1,c2⟩:=isSl_some h4
  have hne:l≠b:=by
    obtain ⟨a1,a2⟩:=rIdx_get h1
    obtain ⟨a3,a4⟩:=rIdx_get h5
    refine L.ne _ _ _ _ _ _ a2 a4 fun q => ?_
    have:n₁ ≠ n₂ - back:=fun q' => by rw [q',BT.beq_eq] at h12; simp at h12
    lia
  have hd:o.data = .seq xs.toArray n:=by
    unfold seqOf at h2
    split at h2
    · rename_i ys' n' hd
      cases h2
      rw [hd]
    · cases h2
  have hx:xs.length<1000:=Nat.le_of_ble_eq_true h10
  have hy:ys.length<1000:=Nat.le_of_ble_eq_true h11
  obtain ⟨s',c',p',r,hcm,rfl,rfl⟩:=code_det (M:=V.M) (c:= .builtin "list.__setitem__" ⟨[.ref l, .ref sl, .ref b],[]⟩) (s:=s) (p:=p) (st:=st)
    (R:=fun r s' => r = .ok (.ret .none)∧s' = {s with heap:=s.heap.update l (Obj.mapSeq fun z=>z.extract 0 (sliceBounds lo hi none xs.toArray.size).1.toNat++ys.toArray++z.extract (max (sliceBounds lo hi none xs.toArray.size).1 (sliceBounds lo hi none xs.toArray.size).2.1).toNat z.size)})
    (fun A hh=>set_slice g1 hd ⟨ob,g3,by rw [hob],kk,by rw [hob]⟩ ⟨os,g2,c1,c2⟩ (partOf_some h7) (partOf_some h8) .none hne (by simp; lia) (by simp; lia) ⟨rfl,rfl⟩)
  refine ⟨_,c',p',hcm, ?_⟩
  obtain ⟨cls,dd,dt,slt⟩:=o
  simp only at hd
  subst hd
  have new:Obj.mapSeq (fun z=>z.extract 0 (sliceBounds lo hi none xs.toArray.size).1.toNat++ys.toArray++z.extract (max (sliceBounds lo hi none xs.toArray.size).1 (sliceBounds lo hi none xs.toArray.size).2.1).toNat z.size) ⟨cls,dd, .seq xs.toArray n,slt⟩ =
      ⟨cls,dd, .seq (sliced xs ys lo hi).toArray (epoch (sliced xs ys lo hi).length xs.length n),slt⟩:=by
    have e1:xs.toArray.extract 0 (sliceBounds lo hi none xs.toArray.size).1.toNat++ys.toArray++xs.toArray.extract (max (sliceBounds lo hi none xs.toArray.size).1 (sliceBounds lo hi none xs.toArray.size).2.1).toNat xs.toArray.size=(sliced xs ys lo hi).toArray:=by
      apply Array.ext'
      simp only [sliced,List.extract_toArray,List.append_toArray,List.size_toArray,List.extract_eq_take_drop]
      have tk : ∀ k:Nat,List.take (xs.length - k) (xs.drop k)=xs.drop k:=fun k=>List.take_of_length_le (by rw [List.length_drop]; exact Nat.le_refl _)
      rw [tk]
      simp
    show (⟨cls,dd, .seq (xs.toArray.extract 0 (sliceBounds lo hi none xs.toArray.size).1.toNat++ys.toArray++xs.toArray.extract (max (sliceBounds lo hi none xs.toArray.size).1 (sliceBounds lo hi none xs.toArray.size).2.1).toNat xs.toArray.size) (if ((xs.toArray.extract 0 (sliceBounds lo hi none xs.toArray.size).1.toNat++ys.toArray++xs.toArray.extract (max (sliceBounds lo hi none xs.toArray.size).1 (sliceBounds lo hi none xs.toArray.size).2.1).toNat xs.toArray.size).size == xs.toArray.size)=true then n else n+1),slt⟩:Obj)=_
    rw [e1]
    have e2:(if ((sliced xs ys lo hi).toArray.size == xs.toArray.size)=true then n else n+1)=epoch (sliced xs ys lo hi).length xs.length n:=by
      unfold epoch
      rw [BT.beq_eq]
      by_cases q:(sliced xs ys lo hi).length=xs.length
      · simp [q]
      · simp [q]
    rw [e2]
  refine ⟨?_, ?_,fun _ _ q=>(nomatch q), ?_, ?_,ht,rfl,rfl,rfl⟩
  · show (s.heap.update l _).objs.size=_
    rw [(Heap.SameBut.update ..).1,ha]; rfl
  · intro e hm
    rcases List.mem_cons.mp hm with rfl | hm
    · show (s.heap.update l _).get? l=_
      rw [Heap.get?_update_self _ g1 (by rw [new]; rfl),new]
    · exact nomatch hm
  · simp
  · intro z oz hz hne'
    have:z≠l:=fun q=>hne' _ (.head _) q.symm
    exact (Heap.get?_update_other _ _ this.symm).trans hz
end Mine
end
section
open PySem PySem.W PySem.W.X PySem.Calls PyProof.Rows PySem.SeqAt
open Builtin Builtin.Str
namespace Mine
noncomputable def DagP (V:Cfg) (s:Shared) (T:LT) (a:Nat) (c:Code) (x:DetR):Prop:=CondP x T (∀ A:Around,codeAny (model V.prog V.w) A c (fun r s' => r=x.r∧DEff x a s s') s)
theorem dag_intro {V:Cfg} {f:Code→LT→Nat→Nat→Nat→Nat→Option DetR}
    (H : ∀ c T n₁ n₂ tk a s,Lk V T s→s.toks=tk→s.heap.objs.size=a→OB (DagP V s T a c) (f c T n₁ n₂ tk a)):Dag1 V f:=by
  intro c T n₁ n₂ tk a x h hc he hu s p st L ht ha
  obtain ⟨s',c',p',r,hcm,rfl,hD⟩:=code_det (M:=V.M) (c:=c) (s:=s) (p:=p) (st:=st) (fun A _=>(H c T n₁ n₂ tk a s L ht ha).get h hc he hu A)
  exact ⟨s',c',p',hcm,hD⟩
noncomputable def pSS:List Value→Option (Str × Nat × Str × Nat) | [.str x t, .str y u]=>some (x,t,y,u) | _=>none
theorem pSS_some {ps:List Value} {q} (h:pSS ps=some q):ps=[.str q.1 q.2.1, .str q.2.2.1 q.2.2.2]:=by
  unfold pSS at h; split at h <;> cases h; rfl
noncomputable def pSI:List Value→Option (Str × Nat × Int × Nat) | [.str x t, .int y u]=>some (x,t,y,u) | _=>none
theorem pSI_some {ps:List Value} {q} (h:pSI ps=some q):ps=[.str q.1 q.2.1, .int q.2.2.1 q.2.2.2]:=by
  unfold pSI at h; split at h <;> cases h; rfl
noncomputable def pSR:List Value→Option (Str × Nat × Addr) | [.str x t, .ref a]=>some (x,t,a) | _=>none
theorem pSR_some {ps:List Value} {q} (h:pSR ps=some q):ps=[.str q.1 q.2.1, .ref q.2.2]:=by
  unfold pSR at h; split at h <;> cases h; rfl
noncomputable def pI:List Value→Option (Int × Nat) | [.int y u]=>some (y,u) | _=>none
theorem pI_some {ps:List Value} {q} (h:pI ps=some q):ps=[.int q.1 q.2]:=by
  unfold pI at h; split at h <;> cases h; rfl
noncomputable def pS:List Value→Option (Str × Nat) | [.str y u]=>some (y,u) | _=>none
theorem pS_some {ps:List Value} {q} (h:pS ps=some q):ps=[.str q.1 q.2]:=by
  unfold pS at h; split at h <;> cases h; rfl
theorem tooLong_of {n:Nat} (h:n≤16777216):tooLong n=false:=by
  show decide (n>sizeLine)=false
  unfold sizeLine
  exact decide_eq_false (by lia)
theorem size_le {n:Nat} (h:n≤16777216):n≤sizeLine:=by unfold sizeLine; exact h
noncomputable def dAdd (deq:(a b:String)→Decidable (a=b)) (c:Code) (tk:Nat):Option DetR:=(cCall deq "str.__add__" c).bind fun ps=>(pSS ps).bind fun q =>
  some ⟨.ok (.ret (.str (q.1++q.2.2.1) (cond (q.1.length == 0) q.2.2.2 (cond (q.2.2.1.length == 0) q.2.1 tk)))),cond (q.1.length == 0) tk (cond (q.2.2.1.length == 0) tk (tk+1)),[],[],[q.1.length+q.2.2.1.length≤16777216],[],false⟩
theorem dAdd_ok (V:Cfg) (deq):Det1 V (fun c _ _ _ tk _=>dAdd deq c tk):=det_intro fun c T n₁ n₂ tk a s L ht ha=>by
  refine OB.bind fun ps h1 => ?_
  refine OB.bind4 fun y t z u h2 => ?_
  refine fun hc he hu => ?_
  rw [pSS_some h2] at h1
  refine ⟨_,_,_,cCall_some h1,rfl,fun A => ?_⟩
  refine call_gives F.slot_str_add (typeIs_str _ _ _) F.entry_str_add (F.args_str_add_2 _ _) (gives_str_add y z t u) ?_
  have hl:y.length+z.length≤16777216:=hc _ (.head _)
  cases q1:y.length == 0 with
  | true=>simp only [if_true,Made.post]; exact ⟨by simp [q1,Str.append_left_empty q1],DEff.same rfl rfl ha (by simp [q1,ht])⟩
  | false =>
    cases q2:z.length == 0 with
    | true=>simp only [if_true,Made.post]; exact ⟨by simp [q1,q2,Str.append_right_empty q2],DEff.same rfl rfl ha (by simp [q1,q2,ht])⟩
    | false =>
      simp only [Made.post]
      exact ⟨size_le (by rw [Str.length_append]; exact hl),by simp [q1,q2,ht],DEff.tok rfl rfl ha (by simp [q1,q2,ht])⟩
noncomputable def rep (x:Str) (n:Int):Str:=if n<1 then Str.empty else if (n == 1 || x.length == 0)=true then x else ⟨(List.replicate n.toNat x.cps).foldl (· ++ ·) #[]⟩
noncomputable def dMul (deq:(a b:String)→Decidable (a=b)) (c:Code) (tk:Nat):Option DetR:=(cCall deq "str.__mul__" c).bind fun ps=>(pSI ps).bind fun q =>
  some ⟨.ok (.ret (.str (rep q.1 q.2.2.1) (cond (decide (q.2.2.1<1)) tk (cond (q.2.2.1 == 1 || q.1.length == 0) q.2.1 tk)))),cond (decide (q.2.2.1<1)) (tk+1) (cond (q.2.2.1 == 1 || q.1.length == 0) tk (tk+1)),[],[],[q.2.2.1.natAbs≤1000,q.1.length≤1000],[],false⟩
theorem foldl_append_size : ∀ (n:Nat) (x:Array Nat) (a:Array Nat),((List.replicate n x).foldl (· ++ ·) a).size=a.size+n*x.size
  | 0,x,a=>by simp
  | n+1,x,a=>by rw [List.replicate_succ,List.foldl_cons,foldl_append_size n x,Array.size_append,Nat.succ_mul]; lia
theorem dMul_ok (V:Cfg) (deq):Det1 V (fun c _ _ _ tk _=>dMul deq c tk):=det_intro fun c T n₁ n₂ tk a s L ht ha=>by
  refine OB.bind fun ps h1 => ?_
  refine OB.bind4 fun y t n u h2 => ?_
  refine fun hc he hu => ?_
  rw [pSI_some h2] at h1
  refine ⟨_,_,_,cCall_some h1,rfl,fun A => ?_⟩
  have c1:n.natAbs≤1000:=hc _ (.head _)
  have c2:y.length≤1000:=hc _ (.tail _ (.head _))
  have hr:(decide (n < -(2 ^ 63:Int)) || decide (n ≥ 2 ^ 63))=false:=by
    rw [Bool.or_eq_false_iff]; exact ⟨decide_eq_false (by lia),decide_eq_false (by lia)⟩
  have hm : ¬ n<1→y.length*n.toNat≤1000*1000:=fun _=>Nat.mul_le_mul c2 (by lia)
  refine call_gives F.slot_str_mul (typeIs_str _ _ _) F.entry_str_mul (F.args_str_mul_2 _ _) (gives_str_mul y n t u hr ?_ ?_) ?_
  · intro h1 _ hgt
    have h3:(2 ^ 63 - 1) / (n:Int) ≥ 2 ^ 20:=by
      have:(2 ^ 20:Int)*n≤2 ^ 63 - 1:=by lia
      exact (Int.le_ediv_iff_mul_le (by lia)).mpr this
    have:(y.length:Int)>2 ^ 20:=by lia
    lia
  · intro h1 _
    exact tooLong_of (Nat.le_trans (hm h1) (by decide))
  · unfold rep
    by_cases q1:n<1
    · simp only [q1,if_true,Made.post]
      exact ⟨by decide,by simp [q1,ht],DEff.tok rfl rfl ha (by simp [q1,ht])⟩
    · simp only [q1,if_false]
      cases q2:(n == 1 || y.length == 0) with
      | true=>simp only [if_true,Made.post]; exact ⟨by simp [q1,q2],DEff.same rfl rfl ha (by simp [q1,q2,ht])⟩
      | false =>
        simp only [Bool.false_eq_true,if_false,Made.post]
        refine ⟨size_le ?_,by simp [q1,q2,ht],DEff.tok rfl rfl ha (by simp [q1,q2,ht])⟩
        show ((List.replicate n.toNat y.cps).foldl (· ++ ·) #[]).size≤_
        rw [foldl_append_size]
        have:=hm q1
        have e:n.toNat*y.cps.size=y.length*n.toNat:=Nat.mul_comm _ _
        simp only [List.size_toArray,List.length_nil]
        lia
noncomputable def dRepr (deq:(a b:String)→Decidable (a=b)) (c:Code) (tk:Nat):Option DetR:=(cCall deq "int.__repr__" c).bind fun ps=>(pI ps).bind fun q =>
  some ⟨.ok (.ret (.str (toString q.1:String) tk)),tk+1,[],[],[q.1.natAbs≤1000],[],false⟩
theorem dRepr_ok (V:Cfg) (deq):Det1 V (fun c _ _ _ tk _=>dRepr deq c tk):=det_intro fun c T n₁ n₂ tk a s L ht ha=>by
  refine OB.bind fun ps h1 => ?_
  refine OB.bind2 fun n u h2 => ?_
  refine fun hc he hu => ?_
  rw [pI_some h2] at h1
  refine ⟨_,_,_,cCall_some h1,rfl,fun A => ?_⟩
  have c1:n.natAbs≤1000:=hc _ (.head _)
  have hn:n.natAbs.log2<1920:=by
    have:n.natAbs.log2≤n.natAbs:=Nat.log2_le_self _
    lia
  exact call_gives F.slot_int_repr (typeIs_int s n u) F.entry_int_repr (F.args_int_repr_1 _) (gives_int_repr n u hn) ⟨int_text_fits hn,by rw [ht],DEff.tok rfl rfl ha (by rw [ht])⟩
noncomputable def dStrAt (deq:(a b:String)→Decidable (a=b)) (cs:List Nat) (c:Code) (n₂ tk:Nat):Option DetR:=(cCall deq "str.__getitem__" c).bind fun ps=>(pSI ps).bind fun q=>(cs[n₂]?).bind fun d =>
  some ⟨.ok (.ret (.str ⟨#[d]⟩ tk)),tk+1,[],[],[0≤q.2.2.1,q.2.2.1<1000,q.1.cps[q.2.2.1.toNat]? = some d],[],false⟩
theorem dStrAt_ok (V:Cfg) (deq) (cs:List Nat):Det1 V (fun c _ _ n₂ tk _=>dStrAt deq cs c n₂ tk):=det_intro fun c T n₁ n₂ tk a s L ht ha=>by
  refine OB.bind fun ps h1 => ?_
  refine OB.bind4 fun y t n u h2 => ?_
  refine OB.bind fun d h3 => ?_
  refine fun hc he hu => ?_
  rw [pSI_some h2] at h1
  refine ⟨_,_,_,cCall_some h1,rfl,fun A => ?_⟩
  have c1:0≤n:=hc _ (.head _)
  have c2:n<1000:=hc _ (.tail _ (.head _))
  have c3:y.cps[n.toNat]? = some d:=hc _ (.tail _ (.tail _ (.head _)))
  have hr:(decide (n < -(2 ^ 63:Int)) || decide (n ≥ 2 ^ 63))=false:=by
    rw [Bool.or_eq_false_iff]; exact ⟨decide_eq_false (by lia),decide_eq_false (by lia)⟩
  have hlt:n.toNat<y.length:=by
    rcases Nat.lt_or_ge n.toNat y.cps.size with q | q
    · exact q
    · rw [Array.getElem?_eq_none q] at c3; cases c3
  have hi:seqIndex? n y.length=some n.toNat:=by
    unfold seqIndex?
    simp only [show ¬ n<0 by lia,if_false]
    rw [if_pos (by simp; lia)]
  exact call_gives F.slot_str_getitem (typeIs_str s y t) F.entry_str_getitem (F.args_str_getitem_2 _ _) (gives_str_getitem y n t u d hr (by rw [hi]; exact c3)) ⟨(by show 1≤sizeLine; decide),by rw [ht],DEff.tok rfl rfl ha (by rw [ht])⟩
noncomputable def dLen (deq:(a b:String)→Decidable (a=b)) (c:Code) (tk:Nat):Option DetR:=(cCall deq "len" c).bind fun ps=>(pS ps).bind fun q =>
  some ⟨.ok (.ret (.int (Int.ofNat q.1.length) (tk+1))),tk+2,[],[],[q.1.length≤16777216],[],false⟩
theorem dLen_ok (V:Cfg) (deq):Det1 V (fun c _ _ _ tk _=>dLen deq c tk):=det_intro fun c T n₁ n₂ tk a s L ht ha=>by
  refine OB.bind fun ps h1 => ?_
  refine OB.bind2 fun y t h2 => ?_
  refine fun hc he hu => ?_
  rw [pS_some h2] at h1
  refine ⟨_,_,_,cCall_some h1,rfl,fun A => ?_⟩
  have c1:y.length≤16777216:=hc _ (.head _)
  exact P.len_str (x:=y) (t:=t) (by show ¬ ((y.length:Int) ≥ 2 ^ 63); lia) ⟨by rw [ht]; rfl,DEff.tok rfl rfl ha (by rw [ht])⟩
noncomputable def pR:List Value→Option Addr | [.ref a]=>some a | _=>none
theorem pR_some {ps:List Value} {q} (h:pR ps=some q):ps=[.ref q]:=by
  unfold pR at h; split at h <;> cases h; rfl
noncomputable def pRI:List Value→Option (Addr × Int × Nat) | [.ref a, .int i t]=>some (a,i,t) | _=>none
theorem pRI_some {ps:List Value} {q} (h:pRI ps=some q):ps=[.ref q.1, .int q.2.1 q.2.2]:=by
  unfold pRI at h; split at h <;> cases h; rfl
theorem seqOf_some {o:Obj} {xs:List Value} {n:Nat} (h:seqOf o=some (xs,n)):o.data = .seq xs.toArray n:=by
  unfold seqOf at h
  split at h
  · rename_i ys n' hd; cases h; rw [hd]
  · cases h
theorem lk_get {V:Cfg} {T:LT} {s:Shared} (L:Lk V T s) {n:Nat} {b:Addr} {o:Obj} (hb:rIdx n T=some (b,o)):s.heap.get? b=some o:=lk_at L hb
theorem DEff.upd1 {x:DetR} {a:Nat} {s:Shared} {i:Nat} {l:Addr} {o o' : Obj} {f:Obj→Obj} {k:Nat} (h1:x.al=[]) (h2:x.upd=[(i,l,o')]) (hg:s.heap.get? l=some o) (ho:f o=o') (hf:o'.isFreed=false)
    (hs:s.heap.objs.size=a) (ht:k=x.tk):DEff x a s {s with heap:=s.heap.update l f,toks:=k}:=by
  refine ⟨?_, ?_,by rw [h1]; exact fun _ _ q=>(nomatch q),by rw [h2]; simp, ?_,ht,rfl,rfl,rfl⟩
  · show (s.heap.update l f).objs.size=_
    rw [(Heap.SameBut.update ..).1,hs,h1]; rfl
  · rw [h2]
    intro e hm
    rcases List.mem_cons.mp hm with rfl | hm
    · show (s.heap.update l f).get? l=_
      rw [Heap.get?_update_self _ hg (by rw [ho]; exact hf),ho]
    · exact nomatch hm
  · intro z oz hz hne'
    have:z≠l:=fun q=>hne' (i,l,o') (by rw [h2]; exact .head _) q.symm
    exact (Heap.get?_update_other _ _ this.symm).trans hz
noncomputable def gAppend (deq:(a b:String)→Decidable (a=b)) (c:Code) (T:LT) (n₁ tk:Nat):Option DetR:=(cBlt deq "list.append" c).bind fun ps=>(pRV ps).bind fun q=>(rIdx n₁ T).bind fun b=>(seqOf b.2).bind fun d =>
  some ⟨.ok (.ret .none),tk,[],[(n₁ - 1,b.1,⟨b.2.cls,b.2.dict, .seq (d.1++[q.2]).toArray (d.2+1),b.2.slots⟩)],[d.1.length≤1000],[(q.1,b.1)],false⟩
theorem gAppend_ok (V:Cfg) (deq):Dag1 V (fun c T n₁ _ tk _=>gAppend deq c T n₁ tk):=dag_intro fun c T n₁ n₂ tk a s L ht ha=>by
  refine OB.bind fun ps h1 => ?_
  refine OB.bind2 fun l v h2 => ?_
  refine OB.bind2 fun b o h3 => ?_
  refine OB.bind2 fun xs n h4 => ?_
  refine fun hc he hu A => ?_
  rw [pRV_some h2] at h1
  rw [cBlt_some h1]
  have hlb:l=b:=he (l,b) (.head _)
  subst hlb
  have hx:xs.length≤1000:=hc _ (.head _)
  have hg:=lk_at L h3
  have hd:=seqOf_some h4
  refine codeAny_builtin F.entry_list_append ?_
  rw [Around.under_plainId (by decide +kernel) _]
  show wpAny _ _ (updateSeq l (·.push v) >>= fun _=>ret .none) _ _ s
  refine wpAny_bind (wpAny_updateSeq hg hd ?_ ?_ ?_)
  · refine wpAny_pure ⟨rfl,DEff.upd1 rfl rfl hg ?_ rfl ha ht⟩
    obtain ⟨cls,dd,dt,slt⟩:=o
    simp only at hd
    subst hd
    show (⟨cls,dd, .seq (xs.toArray.push v) (if (xs.toArray.push v).size == xs.toArray.size then n else n+1),slt⟩:Obj)=_
    rw [if_neg (by simp)]
    simp
  · exact size_le (by show xs.length≤_; lia)
  · show (xs.toArray.push v).size≤sizeLine+1
    unfold sizeLine
    rw [Array.size_push]
    show xs.length+1≤_
    lia
noncomputable def gPop (deq:(a b:String)→Decidable (a=b)) (c:Code) (T:LT) (n₁ tk:Nat) (xs:List Value) (v:Value):Option DetR:=(cBlt deq "list.pop" c).bind fun ps=>(pR ps).bind fun q=>(rIdx n₁ T).bind fun b=>(seqOf b.2).bind fun d =>
  some ⟨.ok (.ret v),tk,[],[(n₁ - 1,b.1,⟨b.2.cls,b.2.dict, .seq xs.toArray (d.2+1),b.2.slots⟩)],[d.1=xs++[v],d.1.length≤1000],[(q,b.1)],false⟩
theorem gPop_ok (V:Cfg) (deq) (xs:List Value) (v:Value):Dag1 V (fun c T n₁ _ tk _=>gPop deq c T n₁ tk xs v):=dag_intro fun c T n₁ n₂ tk a s L ht ha=>by
  refine OB.bind fun ps h1 => ?_
  refine OB.bind fun l h2 => ?_
  refine OB.bind2 fun b o h3 => ?_
  refine OB.bind2 fun ys n h4 => ?_
  refine fun hc he hu A => ?_
  rw [pR_some h2] at h1
  rw [cBlt_some h1]
  have hlb:l=b:=he (l,b) (.head _)
  subst hlb
  have e:ys=xs++[v]:=hc _ (.head _)
  have hx:ys.length≤1000:=hc _ (.tail _ (.head _))
  subst e
  have hg:=lk_at L h3
  have hd:=seqOf_some h4
  refine codeAny_builtin F.entry_list_pop ?_
  rw [Around.under_plainId (by decide +kernel) _]
  show wpAny _ _ (Builtin.List.listItems (.ref l) >>= _) _ _ s
  unfold Builtin.List.listItems
  refine wpAny_bind (wpAny_bind (wpAny_seqItems hg hd (wpAny_pure ?_)))
  rw [if_neg (by simp)]
  have hi:(seqIndex? (-1) (xs++[v]).toArray.size).bind (fun k=>(xs++[v]).toArray[k]?.map (k, ·))=some (xs.length,v):=by
    have:seqIndex? (-1) (xs++[v]).toArray.size=some xs.length:=by
      unfold seqIndex?
      simp
      lia
    rw [this]; simp
  rw [hi]
  unfold Builtin.List.listUpdate
  refine wpAny_bind (wpAny_updateSeq hg hd ?_ ?_ ?_)
  · refine wpAny_pure ⟨rfl,DEff.upd1 rfl rfl hg ?_ rfl ha ht⟩
    obtain ⟨cls,dd,dt,slt⟩:=o
    simp only at hd
    subst hd
    have e2:(xs++[v]).toArray.eraseIdxIfInBounds xs.length=xs.toArray:=by
      simp [Array.eraseIdxIfInBounds,List.eraseIdx_append_of_length_le]
    show (⟨cls,dd, .seq ((xs++[v]).toArray.eraseIdxIfInBounds xs.length) (if ((xs++[v]).toArray.eraseIdxIfInBounds xs.length).size == (xs++[v]).toArray.size then n else n+1),slt⟩:Obj)=_
    rw [e2,if_neg (by simp)]
  · exact size_le (by show (xs++[v]).length≤_; lia)
  · have e2:(xs++[v]).toArray.eraseIdxIfInBounds xs.length=xs.toArray:=by
      simp [Array.eraseIdxIfInBounds,List.eraseIdx_append_of_length_le]
    rw [e2]
    have:=hx
    rw [List.length_append] at this
    show xs.length≤sizeLine+1
    unfold sizeLine
    lia
theorem rIdx_at {V:Cfg} {T:LT} {s:Shared} (L:Lk V T s) {n:Nat} {x:Addr × Obj} (hb:rIdx n T=some x):s.heap.get? x.1=some x.2:=lk_at L hb
noncomputable def gItem (deq:(a b:String)→Decidable (a=b)) (vs:List Value) (c:Code) (T:LT) (n₁ n₂ tk:Nat):Option DetR:=(cBlt deq "list.__getitem__" c).bind fun ps=>(pRI ps).bind fun q=>(rIdx n₁ T).bind fun b=>(seqOf b.2).bind fun d=>(vs[n₂]?).bind fun v =>
  some ⟨.ok (.ret v),tk,[],[],[0≤q.2.1,q.2.1<1000,d.1[q.2.1.toNat]? = some v],[(q.1,b.1)],false⟩
theorem gItem_ok (V:Cfg) (deq) (vs:List Value):Dag1 V (fun c T n₁ n₂ tk _=>gItem deq vs c T n₁ n₂ tk):=dag_intro fun c T n₁ n₂ tk a s L ht ha=>by
  refine OB.bind fun ps h1 => ?_
  refine OB.bind3 fun l i t h2 => ?_
  refine OB.bind2 fun b o h3 => ?_
  refine OB.bind2 fun xs n h4 => ?_
  refine OB.bind fun v h5 => ?_
  refine fun hc he hu A => ?_
  rw [pRI_some h2] at h1
  rw [cBlt_some h1]
  have hlb:l=b:=he (l,b) (.head _)
  subst hlb
  have c1:0≤i:=hc _ (.head _)
  have c2:i<1000:=hc _ (.tail _ (.head _))
  have c3:xs[i.toNat]? = some v:=hc _ (.tail _ (.tail _ (.head _)))
  have hg:=lk_at L h3
  have hd:=seqOf_some h4
  refine codeAny_builtin PySem.F.entry_list_getitem ?_
  rw [Around.under_plainId (by decide +kernel) _]
  show wpAny _ _ (Builtin.List.listSubscript? (.int i t) >>= _) _ _ s
  refine wpAny_bind (wpAny_listSubscript_int (fitsIndex_of c1 (by lia)) ?_)
  obtain ⟨j,rfl⟩:=Int.eq_ofNat_of_zero_le c1
  have hx' : xs.toArray[j]? = some v:=by simpa using c3
  show wpAny _ _ ((seqItemAt l j >>= fun r=>pure (r.map (j, ·))) >>= _) _ _ s
  refine wpAny_bind (wpAny_bind (wpAny_seqItemAt hg hd (wpAny_pure ?_)))
  rw [hx']
  first
    | exact wpAny_bind (wpAny_pure (wpAny_pure ⟨rfl,DEff.same rfl rfl ha ht⟩))
    | exact wpAny_pure ⟨rfl,DEff.same rfl rfl ha ht⟩
noncomputable def fldOf (o:Obj):Option (List Value):=match o.data with | .fields fs=>some fs.toList | _=>none
theorem fldOf_some {o:Obj} {fs:List Value} (h:fldOf o=some fs):o.data = .fields fs.toArray:=by
  unfold fldOf at h
  split at h
  · rename_i xs hd; cases h; rw [hd]
  · cases h
noncomputable def pRI2:List Value→Option (Addr × Int) | [.ref l, .int i 0]=>some (l,i) | _=>none
theorem pRI2_some {ps:List Value} {q} (h:pRI2 ps=some q):ps=[.ref q.1, .int q.2 0]:=by
  unfold pRI2 at h; split at h <;> cases h; rfl
noncomputable def pSI2:List Value→Option (Str × Nat × Int) | [.str x t, .int i 0]=>some (x,t,i) | _=>none
theorem pSI2_some {ps:List Value} {q} (h:pSI2 ps=some q):ps=[.str q.1 q.2.1, .int q.2.2 0]:=by
  unfold pSI2 at h; split at h <;> cases h; rfl
noncomputable def gListNext (deq:(a b:String)→Decidable (a=b)) (vs:List Value) (n₂ : Nat) (c:Code) (T:LT) (n₁ k tk:Nat):Option DetR:=(cBlt deq "list_iterator.__next__" c).bind fun ps=>(pR ps).bind fun q=>(rIdx n₁ T).bind fun b=>(fldOf b.2).bind fun fs=>(pRI2 fs).bind fun f=>(rIdx n₂ T).bind fun lo=>(seqOf lo.2).bind fun d=>(vs[k]?).bind fun v =>
  some ⟨.ok (.ret v),tk,[],[(n₁ - 1,b.1,⟨b.2.cls,b.2.dict, .fields #[.ref f.1, .int (f.2+1) 0],b.2.slots⟩)],[0≤f.2,d.1[f.2.toNat]? = some v],[(q,b.1),(f.1,lo.1)],false⟩
theorem gListNext_ok (V:Cfg) (deq) (vs:List Value) (n:Nat):Dag1 V (fun c T n₁ n₂ tk _=>gListNext deq vs n c T n₁ n₂ tk):=dag_intro fun c T n₁ n₂ tk a s L ht ha=>by
  refine OB.bind fun ps h1 => ?_
  refine OB.bind fun it h2 => ?_
  refine OB.bind2 fun b o h3 => ?_
  refine OB.bind fun fs h4 => ?_
  refine OB.bind2 fun l i h5 => ?_
  refine OB.bind2 fun l' ol h6 => ?_
  refine OB.bind2 fun xs m h7 => ?_
  refine OB.bind fun v h8 => ?_
  refine fun hc he hu A => ?_
  rw [pR_some h2] at h1
  rw [cBlt_some h1]
  have e1:it=b:=he (it,b) (.head _)
  have e2:l=l' :=he (l,l') (.tail _ (.head _))
  subst e1 e2
  have c1:0≤i:=hc _ (.head _)
  have c2:xs[i.toNat]? = some v:=hc _ (.tail _ (.head _))
  have ho:=lk_at L h3
  have hd:o.data = .fields #[.ref l, .int i 0]:=by rw [fldOf_some h4,pRI2_some h5]
  have hol:=lk_at L h6
  have hdl:=seqOf_some h7
  refine codeAny_builtin entry_listiter_next ?_
  rw [Around.under_plainId (by decide +kernel) _]
  show wpAny _ _ (field (.ref it) 0 >>= _) _ _ s
  refine wpAny_bind (wpAny_field ho hd (x:= .ref l) rfl ?_)
  show wpAny _ _ (if (Value.ref l == Value.none)=true then _ else _) _ _ s
  rw [if_neg (show ¬ ((Value.ref l == Value.none)=true) from Bool.false_ne_true)]
  show wpAny _ _ (field (.ref it) 1 >>= _) _ _ s
  refine wpAny_bind (wpAny_field ho hd (x:= .int i 0) rfl ?_)
  show wpAny _ _ (seqItems? (.ref l) >>= _) _ _ s
  refine wpAny_bind (wpAny_seqItems hol hdl ?_)
  have c3:xs.toArray[i.toNat]? = some v:=by simpa using c2
  simp only [c3]
  refine wpAny_bind (wpAny_setField ho hd (by simp) (wpAny_pure ⟨rfl,DEff.upd1 rfl rfl ho ?_ rfl ha ht⟩))
  obtain ⟨cls,dd,dt,slt⟩:=o
  simp only at hd
  subst hd
  rfl
noncomputable def gAscNext (deq:(a b:String)→Decidable (a=b)) (cs:List Nat) (c:Code) (T:LT) (n₁ k tk:Nat):Option DetR:=(cBlt deq "str_ascii_iterator.__next__" c).bind fun ps=>(pR ps).bind fun q=>(rIdx n₁ T).bind fun b=>(fldOf b.2).bind fun fs=>(pSI2 fs).bind fun f=>(cs[k]?).bind fun d =>
  some ⟨.ok (.ret (.str ⟨#[d]⟩ tk)),tk+1,[],[(n₁ - 1,b.1,⟨b.2.cls,b.2.dict, .fields #[.str f.1 f.2.1, .int (f.2.2+1) 0],b.2.slots⟩)],[0≤f.2.2,f.1.cps[f.2.2.toNat]? = some d],[(q,b.1)],false⟩
theorem gAscNext_ok (V:Cfg) (deq) (cs:List Nat):Dag1 V (fun c T n₁ n₂ tk _=>gAscNext deq cs c T n₁ n₂ tk):=dag_intro fun c T n₁ n₂ tk a s L ht ha=>by
  refine OB.bind fun ps h1 => ?_
  refine OB.bind fun it h2 => ?_
  refine OB.bind2 fun b o h3 => ?_
  refine OB.bind fun fs h4 => ?_
  refine OB.bind3 fun y t i h5 => ?_
  refine OB.bind fun d h8 => ?_
  refine fun hc he hu A => ?_
  rw [pR_some h2] at h1
  rw [cBlt_some h1]
  have e1:it=b:=he (it,b) (.head _)
  subst e1
  have c2:y.cps[i.toNat]? = some d:=hc _ (.tail _ (.head _))
  have ho:=lk_at L h3
  have hd:o.data = .fields #[.str y t, .int i 0]:=by rw [fldOf_some h4,pSI2_some h5]
  refine codeAny_builtin F.entry_str_ascii_iterator_next ?_
  rw [Around.under_plainId (by decide +kernel) _]
  show wpAny _ _ (field (.ref it) 0 >>= _) _ _ s
  refine wpAny_bind (wpAny_field ho hd (x:= .str y t) rfl ?_)
  show wpAny _ _ (field (.ref it) 1 >>= _) _ _ s
  refine wpAny_bind (wpAny_field ho hd (x:= .int i 0) rfl ?_)
  simp only [c2]
  refine wpAny_bind (wpAny_setField ho hd (by simp) (wpAny_bind (wpAny_mkStr (wpAny_pure ⟨by rw [ht],DEff.upd1 rfl rfl ho ?_ rfl ha (by rw [ht])⟩))))
  obtain ⟨cls,dd,dt,slt⟩:=o
  simp only at hd
  subst hd
  rfl
noncomputable def partOf2:Value→Option (Option (Int × Nat)) | .none=>some none | .int i t=>some (some (i,t)) | _=>none
theorem partOf2_some {v:Value} {k} (h:partOf2 v=some k):v=partValue k:=by
  unfold partOf2 at h
  split at h <;> cases h <;> rfl
noncomputable def slc (x:Str) (l u:Option (Int × Nat)):Str:=cond ((slicePicked x l u none).length == x.length) x ⟨((slicePicked x l u none).filterMap (x.cps[·]?)).toArray⟩
noncomputable def dSlice (deq:(a b:String)→Decidable (a=b)) (c:Code) (T:LT) (n₁ tk:Nat):Option DetR:=(cCall deq "str.__getitem__" c).bind fun ps=>(pSR ps).bind fun q=>(rIdx n₁ T).bind fun b=>(isSl deq b.2).bind fun p=>(partOf2 p.1).bind fun l=>(partOf2 p.2.1).bind fun u=>match p.2.2 with
  | .none=>some ⟨.ok (.ret (.str (slc q.1 l u) (cond ((slicePicked q.1 l u none).length == q.1.length) q.2.1 tk))),cond ((slicePicked q.1 l u none).length == q.1.length) tk (tk+1),[],[],[(slc q.1 l u).length≤16777216],[(q.2.2,b.1)],false⟩
  | _=>none
theorem dSlice_ok (V:Cfg) (deq):Det1 V (fun c T n₁ _ tk _=>dSlice deq c T n₁ tk):=det_intro fun c T n₁ n₂ tk a s L ht ha=>by
  refine OB.bind fun ps h1 => ?_
  refine OB.bind3 fun y t sl h2 => ?_
  refine OB.bind2 fun b o h3 => ?_
  refine OB.bind3 fun v1 v2 v3 h4 => ?_
  refine OB.bind fun l h5 => ?_
  refine OB.bind fun u h6 => ?_
  dsimp only
  split
  case h_2=>trivial
  refine fun hc he hu => ?_
  rw [pSR_some h2] at h1
  have e1:sl=b:=he (sl,b) (.head _)
  subst e1
  obtain ⟨c1,c2⟩:=isSl_some h4
  have hl:(slc y l u).length≤16777216:=hc _ (.head _)
  refine ⟨_,_,_,cCall_some h1,rfl,fun A => ?_⟩
  refine call_meets F.slot_str_getitem (typeIs_str s y t) F.entry_str_getitem (F.args_str_getitem_2 _ _) (meets_str_getitem_slice y t sl l u none rfl) ⟨⟨o,lk_at L h3,c1, ?_⟩, ?_⟩
  · rw [c2,show v1=partValue l from partOf2_some h5,show v2=partValue u from partOf2_some h6]; rfl
  · unfold sliceMade slc at *
    cases q:(slicePicked y l u none).length == y.length with
    | true=>simp only [q,Option.map_none,Option.getD_none,beq_self_eq_true,Bool.and_self,if_true,Made.post]; exact ⟨by simp [q],DEff.same rfl rfl ha (by simp [q,ht])⟩
    | false =>
      simp only [q,Option.map_none,Option.getD_none,beq_self_eq_true,Bool.and_false,Bool.false_eq_true,if_false,Made.post]
      exact ⟨size_le (by simpa [q] using hl),by simp [q,ht],DEff.tok rfl rfl ha (by simp [q,ht])⟩
noncomputable def strsOf:List Value→Option (List (Str × Nat))
  | []=>some []
  | .str x t :: r=>match strsOf r with | some l=>some ((x,t) :: l) | none=>none
  | _=>none
theorem strsOf_some : ∀ {vs:List Value} {l},strsOf vs=some l→vs=strValues l
  | [],l,h=>by cases h; rfl
  | v :: r,l,h=>by
    cases v with
    | str x t =>
      simp only [strsOf] at h
      split at h
      · rename_i l' e
        cases h
        rw [strsOf_some e]
        rfl
      · cases h
    | _=>cases h
noncomputable def joined (x:Str) (l:List (Str × Nat)):Str:=match l with | [p]=>p.1 | _=>glued x (l.map (·.1))
noncomputable def joinTok (l:List (Str × Nat)) (tk:Nat):Nat:=match l with | [p]=>p.2 | _=>tk
noncomputable def joinTk (l:List (Str × Nat)) (tk:Nat):Nat:=match l with | [_]=>tk | _=>tk+1
theorem join_post {x:Str} {s:Shared} {Q:Value→Shared→Prop} (l:List (Str × Nat)) (hl:(joined x l).length≤16777216) (h:Q (.str (joined x l) (joinTok l s.toks)) {s with toks:=joinTk l s.toks}):(joinMade x l).post Q s:=by
  match l,hl,h with
  | [],hl,h=>exact ⟨size_le hl,h⟩
  | [p],hl,h=>exact h
  | p :: q :: r,hl,h=>exact ⟨size_le hl,h⟩
noncomputable def dJoin (deq:(a b:String)→Decidable (a=b)) (ty:String) (c:Code) (T:LT) (n₁ tk:Nat):Option DetR:=(cCall deq "str.join" c).bind fun ps=>(pSR ps).bind fun q=>(rIdx n₁ T).bind fun b=>(isL deq ty b.2).bind fun xs=>(strsOf xs).bind fun l =>
  some ⟨.ok (.ret (.str (joined q.1 l) (joinTok l tk))),joinTk l tk,[],[],[(joined q.1 l).length≤16777216,tooLong ((l.map (·.1)).toArray.foldl (· + ·.length+q.1.length) 0)=false],[(q.2.2,b.1)],false⟩
theorem dJoin_list (V:Cfg) (deq):Det1 V (fun c T n₁ _ tk _=>dJoin deq "list" c T n₁ tk):=det_intro fun c T n₁ n₂ tk a s L ht ha=>by
  refine OB.bind fun ps h1 => ?_
  refine OB.bind3 fun y t sl h2 => ?_
  refine OB.bind2 fun b o h3 => ?_
  refine OB.bind fun xs h4 => ?_
  refine OB.bind fun l h5 => ?_
  refine fun hc he hu => ?_
  rw [pSR_some h2] at h1
  have e1:sl=b:=he (sl,b) (.head _)
  subst e1
  obtain ⟨k,ho⟩:=isL_some h4
  have ho' : o={cls:= .type "list", dict:=o.dict,data:= .seq xs.toArray k,slots:=o.slots}:=ho
  have hg:=lk_at L h3
  refine ⟨_,_,_,cCall_some h1,rfl,fun A => ?_⟩
  refine call_meets F.slot_str_join (typeIs_str s y t) F.entry_str_join (F.args_str_join_2 _ _) (meets_str_join_list y t sl l (hc _ (.tail _ (.head _)))) ⟨⟨o,hg,by rw [ho'],k,by rw [ho',strsOf_some h5]⟩, ?_⟩
  exact join_post l (hc _ (.head _)) ⟨by rw [ht],DEff.tok rfl rfl ha (by rw [ht])⟩
theorem dJoin_tuple (V:Cfg) (deq):Det1 V (fun c T n₁ _ tk _=>dJoin deq "tuple" c T n₁ tk):=det_intro fun c T n₁ n₂ tk a s L ht ha=>by
  refine OB.bind fun ps h1 => ?_
  refine OB.bind3 fun y t sl h2 => ?_
  refine OB.bind2 fun b o h3 => ?_
  refine OB.bind fun xs h4 => ?_
  refine OB.bind fun l h5 => ?_
  refine fun hc he hu => ?_
  rw [pSR_some h2] at h1
  have e1:sl=b:=he (sl,b) (.head _)
  subst e1
  obtain ⟨k,ho⟩:=isL_some h4
  have ho' : o={cls:= .type "tuple", dict:=o.dict,data:= .seq xs.toArray k,slots:=o.slots}:=ho
  have hg:=lk_at L h3
  refine ⟨_,_,_,cCall_some h1,rfl,fun A => ?_⟩
  refine call_meets F.slot_str_join (typeIs_str s y t) F.entry_str_join (F.args_str_join_2 _ _) (meets_str_join_tuple y t sl l (hc _ (.tail _ (.head _)))) ⟨⟨o,k,hg,by rw [ho'],by rw [ho',strsOf_some h5]⟩, ?_⟩
  exact join_post l (hc _ (.head _)) ⟨by rw [ht],DEff.tok rfl rfl ha (by rw [ht])⟩
noncomputable def isTy (deq:(a b:String)→Decidable (a=b)) (n:String) (o:Obj):Option (List Value):=match o.cls with
  | .type t=>match deq t n with
    | .isTrue _=>match o.data with
      | .fields fs=>match o.dict with
        | none=>match o.slots.toList with
          | []=>some fs.toList
          | _=>none
        | _=>none
      | _=>none
    | .isFalse _=>none
  | _=>none
theorem isTy_some {deq} {n:String} {o:Obj} {fs:List Value} (h:isTy deq n o=some fs):o={cls:= .type n,dict:=none,data:= .fields fs.toArray,slots:= #[]}:=by
  unfold isTy at h
  split at h
  · rename_i t ht
    split at h
    · rename_i e _
      split at h
      · rename_i ys hd
        split at h
        · rename_i hdd
          split at h
          · rename_i hs
            cases h
            obtain ⟨c,d,dt,sl⟩:=o
            simp only at ht hd hdd hs
            subst e ht hd hdd
            have:sl = #[]:=Array.toList_eq_nil_iff.mp hs
            rw [this]
          · cases h
        · cases h
      · cases h
    · cases h
  · cases h
noncomputable def pIII:List Value→Option (Int × Nat × Int × Nat × Int × Nat) | [.int a t, .int b u, .int c v]=>some (a,t,b,u,c,v) | _=>none
theorem pIII_some {ps:List Value} {q} (h:pIII ps=some q):ps=[.int q.1 q.2.1, .int q.2.2.1 q.2.2.2.1, .int q.2.2.2.2.1 q.2.2.2.2.2]:=by
  unfold pIII at h; split at h <;> cases h; rfl
noncomputable def dRangeIter (deq:(a b:String)→Decidable (a=b)) (c:Code) (T:LT) (n₁ tk a:Nat):Option DetR:=(cCall deq "range.__iter__" c).bind fun ps=>(pR ps).bind fun q=>(rIdx n₁ T).bind fun b=>(isTy deq "range" b.2).bind fun fs=>(pIII fs).bind fun f =>
  some ⟨.ok (.ret (.ref a)),tk,[⟨.type "range_iterator", none, .fields #[.int f.1 0, .int (Builtin.Range.rangeSize f.1 f.2.2.1 f.2.2.2.2.1) 0, .int f.2.2.2.2.1 0], #[]⟩],[],[Builtin.Range.small f.1 f.2.2.1 f.2.2.2.2.1=true],[(q,b.1)],false⟩
theorem dRangeIter_ok (V:Cfg) (deq):Det1 V (fun c T n₁ _ tk a=>dRangeIter deq c T n₁ tk a):=det_intro fun c T n₁ n₂ tk a s L ht ha=>by
  refine OB.bind fun ps h1 => ?_
  refine OB.bind fun r h2 => ?_
  refine OB.bind2 fun b o h3 => ?_
  refine OB.bind fun fs h4 => ?_
  refine OB.bind6 fun i t j u k v h5 => ?_
  refine fun hc he hu => ?_
  rw [pR_some h2] at h1
  have e1:r=b:=he (r,b) (.head _)
  subst e1
  have hr:s.heap.get? r=some {cls:= .type "range", dict:=none,data:= .fields #[.int i t, .int j u, .int k v],slots:= #[]}:=by
    have e:=lk_at L h3
    rw [show o=_ from isTy_some h4,pIII_some h5] at e
    exact e
  have hT:s.TypeIs (.ref r) "range" :=⟨_,hr,rfl⟩
  have hsm:Builtin.Range.small i j k=true:=hc _ (.head _)
  refine ⟨_,_,_,cCall_some h1,rfl,fun A => ?_⟩
  refine call_meets F.slot_range_iter hT F.entry_range_iter (F.args_range_iter_1 _) (AutoRange.range___iter___range_1 r i j k t u v (by unfold Builtin.Range.small at hsm; simp [hsm])) ⟨hr, ?_⟩
  unfold Builtin.Range.small at hsm
  simp only [hsm,if_true]
  refine ⟨by rw [ha], ?_⟩
  refine ⟨?_,fun _ q=>(nomatch q), ?_,List.nodup_nil, ?_,ht,rfl,rfl,rfl⟩
  · show (s.heap.push _).objs.size=_
    rw [Heap.size_push,ha]; rfl
  · intro i' o' e
    cases i' with
    | zero=>cases e; rw [Nat.add_zero,← ha]; exact Heap.get?_push_size _ rfl
    | succ n=>cases e
  · intro z oz hz _
    exact Heap.get?_push_of_some _ hz
end Mine
end
section
open PySem PySem.W PySem.W.X PySem.Calls PyProof.Rows PySem.SeqAt
namespace Mine
end Mine
namespace Mine
noncomputable def eInt (v:Int) (t b k g:Nat):Eff:=⟨.ok (.ret (.int v t)),[],[],b,k,g⟩
end Mine
end
section
open PySem PySem.W PySem.W.X PySem.Calls PyProof.Rows PySem.SeqAt
namespace Mine
noncomputable def Out.EB:Out→List Addr | .ret _ _ _ _ _ _ _ _ E _ _ _=>E | .again _ _ _ _ _ _ _ _ E _ _ _=>E | .cut _ _ _ _ _ _ _ _ E _ _ _ _=>E | _=>[]
noncomputable def Out.TB:Out→List (Sem Fin) | .ret _ _ _ _ _ _ _ _ _ _ _ T=>T | .again _ _ _ _ _ _ _ _ _ _ _ T=>T | .cut _ _ _ _ _ _ _ _ _ _ _ T _=>T | _=>[]
set_option genInjectivity true in
structure Row:Type 1 where
  kind:Nat
  r:Result
  c:Code
  stk:List (Code × Pos)
  rep:Rp
  base:Nat
  off:Nat
  tk:Nat
  bare:Bool
  EA:List Addr
  TA:List (Sem Fin)
  CS:List Prop
noncomputable def noR:Result:= .ok (.ret .none)
noncomputable def noC:Code:= .call .none ⟨[],[]⟩
noncomputable def Out.row:Out→Row
  | .ret r rep base off tk _ gl EA _ CS TA _=>⟨1,r,noC,[],rep,base,off,tk,gl.all GenState.bare,EA,TA,CS⟩
  | .again c rep base off tk _ gl EA _ CS TA _=>⟨2,noR,c,[],rep,base,off,tk,gl.all GenState.bare,EA,TA,CS⟩
  | .cut c stk rep base off tk _ EA _ CS TA _ _=>⟨3,noR,c,stk,rep,base,off,tk,true,EA,TA,CS⟩
  | .fail n a=>⟨4,noR,noC,[],[],n,a,0,false,[],[],[]⟩
noncomputable def Out.rest:Out→Eff→Out | .cut _ _ _ _ _ _ _ _ _ _ _ _ f=>f | _=>fun _ => .fail 0 0
noncomputable abbrev isRet (o:Out) (r:Result) (rep:Rp) (CS:List Prop):Prop:=o.row={o.row with kind:=1,r:=r,rep:=rep,bare:=true,EA:=o.EB,TA:=o.TB,CS:=CS}
noncomputable abbrev isAgain (o:Out) (c:Code) (rep:Rp) (CS:List Prop):Prop:=o.row={o.row with kind:=2,c:=c,rep:=rep,bare:=true,EA:=o.EB,TA:=o.TB,CS:=CS}
noncomputable abbrev isCut (o:Out) (c:Code) (rep:Rp) (CS:List Prop):Prop:=o.row={o.row with kind:=3,c:=c,rep:=rep,EA:=o.EB,TA:=o.TB,CS:=CS}
noncomputable def Code.argV:Code→Nat→Value
  | .call _ ⟨ps,_⟩,i=>ps.getD i .none
  | .builtin _ ⟨ps,_⟩,i=>ps.getD i .none
  | .forLoop _ it _ _ _,_=>it
  | .compLoop _ _ it _ _,0=>it
  | .compLoop _ _ _ acc _,_=>acc
  | .compStart _ _ it _ _,0=>it
  | .compStart _ _ _ acc _,_=>acc
  | _,_ => .none
noncomputable def Value.tok:Value→Nat | .int _ t=>t | .str _ t=>t | _=>0
noncomputable def Value.adr:Value→Nat | .ref a=>a | _=>0
noncomputable def Out.ct (o:Out) (i:Nat):Nat:=Value.tok (Code.argV o.row.c i)
noncomputable def Out.ca (o:Out) (i:Nat):Nat:=Value.adr (Code.argV o.row.c i)
noncomputable abbrev Stk:=List (Code × Pos)
structure OutIs (O:List Frame) (stk:Stk):Prop where
  where_:O.map Frame.where_=stk
  top:topHandled O=none
  past:topHandled.go true O=none
structure AtCall (p:Pos) (O:List Frame) (stk:Stk):Prop extends OutIs O stk where
  form : ∃ k g l c₀ st,O = .ret k none g l c₀ p [] :: st∧topHandled st=none
noncomputable def EndsAt (M:Model) (s:Shared) (c:Code) (p:Pos) (O:List Frame) (s' : Shared) (r:Result):Prop:= ∃ c' p',Comes M s ⟨M.den c,c,p,O⟩ s' ⟨leafOf r,c',p',O⟩
section
variable {V:Cfg} {Q:Result ⊕ Code→Shared→Prop} {o:Out} {stk:List (Code × Pos)} {base off tk gb:Nat} {rep:Rp} {CS:List Prop} {r:Result} {c:Code}
theorem ok_ret (h:isRet o r rep CS) (hc : ∀ x∈CS,x) (hq : ∀ s base off tk gb,Pst V s V.ids rep base off tk gb→(∀ x∈s.gens,x.bare=true)→Q (.inl r) s):OutOk V Q o:=by
  cases o with
  | ret r' rep' base' off' tk' gb' gl' EA EB CS' TA TB =>
    have h:Out.row (.ret r' rep' base' off' tk' gb' gl' EA EB CS' TA TB)=_:=h
    simp only [Out.row,Row.mk.injEq,Out.EB,Out.TB] at h
    obtain ⟨_,rfl,_,_,rfl,_,_,_,h1,rfl,rfl,rfl⟩:=h
    exact ⟨rfl,rfl,hc,fun s P _ hb=>hq s _ _ _ _ P (hb (List.all_eq_true.mp h1))⟩
  | again=>have h:Out.row _=_:=h; simp [Out.row] at h
  | cut=>have h:Out.row _=_:=h; simp [Out.row] at h
  | fail=>have h:Out.row _=_:=h; simp [Out.row] at h
theorem ok_again (h:isAgain o c rep CS) (hc : ∀ x∈CS,x) (hq : ∀ s base off tk gb,Pst V s V.ids rep base off tk gb→(∀ x∈s.gens,x.bare=true)→Q (.inr c) s):OutOk V Q o:=by
  cases o with
  | again r' rep' base' off' tk' gb' gl' EA EB CS' TA TB =>
    have h:Out.row (.again r' rep' base' off' tk' gb' gl' EA EB CS' TA TB)=_:=h
    simp only [Out.row,Row.mk.injEq,Out.EB,Out.TB] at h
    obtain ⟨_,_,rfl,_,rfl,_,_,_,h1,rfl,rfl,rfl⟩:=h
    exact ⟨rfl,rfl,hc,fun s P _ hb=>hq s _ _ _ _ P (hb (List.all_eq_true.mp h1))⟩
  | ret=>have h:Out.row _=_:=h; simp [Out.row] at h
  | cut=>have h:Out.row _=_:=h; simp [Out.row] at h
  | fail=>have h:Out.row _=_:=h; simp [Out.row] at h
theorem ok_cut (h:isCut o c rep CS) (hc : ∀ x∈CS,x)
    (hq : ∀ s p O base off tk,(∃ ids gb,Pst V s ids rep base off tk gb)→(∀ x∈s.gens,x.bare=true)→AtCall p O o.row.stk →
      ∃ e s',EndsAt V.M s c p O s' e.r∧EffOk e s s' ∧ OutOk V Q (o.rest e)):OutOk V Q o:=by
  cases o with
  | cut c' stk' rep' base' off' tk' gb' EA EB CS' TA TB f =>
    have h:Out.row (.cut c' stk' rep' base' off' tk' gb' EA EB CS' TA TB f)=_:=h
    simp only [Out.row,Row.mk.injEq,Out.EB,Out.TB] at h
    obtain ⟨_,_,rfl,_,rfl,_,_,_,_,rfl,rfl,rfl⟩:=h
    refine ⟨rfl,rfl,hc,fun s p k g l c₀ st P hb _ hs h1 h2 => ?_⟩
    obtain ⟨ids,_,P⟩:=P
    obtain ⟨e,s',hE,hX,hO⟩:=hq s p (.ret k none g l c₀ p [] :: st) _ _ _ ⟨ids,_,P⟩ hb ⟨⟨hs,h1,h2⟩,k,g,l,c₀,st,rfl,h1⟩
    exact ⟨e,s',hE,hX,hO⟩
  | ret=>have h:Out.row _=_:=h; simp [Out.row] at h
  | again=>have h:Out.row _=_:=h; simp [Out.row] at h
  | fail=>have h:Out.row _=_:=h; simp [Out.row] at h
end
structure Kept (s s' : Shared) (A:List Addr):Prop where
  keep : ∀ b o,s.heap.get? b=some o→b∉A→s'.heap.get? b=some o
  le:s.heap.objs.size≤s'.heap.objs.size
  bare:(∀ x∈s.gens,x.bare=true) → ∀ x∈s'.gens,x.bare=true
  drawn:s'.drawn=s.drawn
  os:s'.os=s.os
noncomputable abbrev Led:=List (Addr × Obj)
noncomputable def AllAt (s:Shared) (L:Led):Prop:= ∀ x∈L,s.heap.get? x.1=some x.2
noncomputable abbrev Led.as (L:Led):List Addr:=L.map (·.1)
theorem get?_lt {h:Heap} {a:Addr} {o:Obj} (e:h.get? a=some o):a<h.objs.size:=by
  rcases Nat.lt_or_ge a h.objs.size with q | q
  · exact q
  · rw [Heap.get?_none_of_le q] at e; cases e
theorem Kept.trans {s s₁ s₂ : Shared} {A B:List Addr} (h₁ : Kept s s₁ A) (h₂ : Kept s₁ s₂ B) (hB : ∀ b∈B,b∈A∨s.heap.objs.size≤b):Kept s s₂ A where
  keep b o e hb:=h₂.keep b o (h₁.keep b o e hb) fun q=>by
    rcases hB b q with q | q
    · exact hb q
    · exact absurd (get?_lt e) (Nat.not_lt.mpr q)
  le:=Nat.le_trans h₁.le h₂.le
  bare h:=h₂.bare (h₁.bare h)
  drawn:=h₂.drawn.trans h₁.drawn
  os:=h₂.os.trans h₁.os
theorem Kept.refl (s:Shared) (A:List Addr):Kept s s A:=⟨fun _ _ e _=>e,Nat.le_refl _,fun h=>h,rfl,rfl⟩
theorem Kept.mono {s s' : Shared} {A B:List Addr} (h:Kept s s' A) (hAB : ∀ a∈A,a∈B):Kept s s' B:=⟨fun b o e hb=>h.keep b o e fun q=>hb (hAB b q),h.le,h.bare,h.drawn,h.os⟩
noncomputable def Old (w:World) (s:Shared):Prop:= ∀ a o,(ktP w.params).get a=some o→s.heap.get? a=some o
noncomputable def Bare (s:Shared):Prop:= ∀ x∈s.gens,x.bare=true
noncomputable def kNone (w:World) (L:Led):Prop:= ∀ x∈L,(ktP w.params).get x.1=none
theorem LT.ins_at (b:Addr) (x:Obj) : ∀ (t:LT) (k:Nat),(∀ j<k,(t.get j).isSome=true)→(t.ins k b x).get k=some (b,x)
  | .nil,k,h=>by
    have hk:k=0:=by
      rcases Nat.eq_zero_or_pos k with q | q
      · exact q
      · have:=h 0 q; simp [LT.get] at this
    subst hk
    rfl
  | .node a o l r,k,h=>by
    rw [LT.ins_node]
    by_cases hk:k=0
    · rw [if_pos hk,LT.get_node,if_pos hk]
    · rw [if_neg hk]
      by_cases pk:k % 2=1
      · rw [if_pos pk,LT.get_node,if_neg hk,if_pos pk]
        refine LT.ins_at b x l _ fun j hj => ?_
        have:=h (2*j+1) (by lia)
        rw [LT.get_node,if_neg (by lia),if_pos (by lia)] at this
        rw [show (2*j+1) / 2=j by lia] at this
        exact this
      · rw [if_neg pk,LT.get_node,if_neg hk,if_neg pk]
        refine LT.ins_at b x r _ fun j hj => ?_
        have:=h (2*j+2) (by lia)
        rw [LT.get_node,if_neg (by lia),if_neg (by lia)] at this
        rw [show (2*j+2) / 2 - 1=j by lia] at this
        exact this
theorem mkT_get : ∀ (L P:Led) (T:LT),(∀ i,T.get i=P[i]?) → ∀ i,(mkT P.length T L).get i=(P++L)[i]?
  | [],P,T,h,i=>by rw [List.append_nil]; exact h i
  | x :: L,P,T,h,i=>by
    obtain ⟨a,o⟩:=x
    have hs : ∀ j<P.length,(T.get j).isSome=true:=fun j hj=>by rw [h j,List.getElem?_eq_getElem hj]; rfl
    have hi:=LT.ins_at a o T P.length hs
    have z:=mkT_get L (P++[(a,o)]) (T.ins P.length a o) (fun i=>by
      rw [LT.get_ins a o T P.length (by rw [hi]; rfl) i,h i]
      by_cases q:i=P.length
      · subst q; simp
      · rw [if_neg q]
        by_cases q2:i<P.length
        · rw [List.getElem?_append_left q2]
        · rw [List.getElem?_eq_none (by lia),List.getElem?_eq_none (by simp; lia)]) i
    rw [List.length_append,List.length_singleton,List.append_assoc] at z
    exact z
theorem mkT_at (L:Led) (i:Nat):(mkT 0 .nil L).get i=L[i]? :=by
  have:=mkT_get L [] .nil (fun i=>by simp [LT.get]) i
  simpa using this
structure Starts (V:Cfg) (s:Shared) (L:Led):Prop where
  h₀ : V.h₀ = s.heap
  own:V.own=L.as
  d:V.d=s.drawn
  os:V.os=s.os
  at' : AllAt s L
  nd:L.as.Nodup
  ap : ∀ x∈L,V.kt.get x.1=none
  old : ∀ a o,V.kt.get a=some o→s.heap.get? a=some o
  bare:Bare s
theorem rep_start {V:Cfg} {s:Shared} {L:Led} (S:Starts V s L):Rep V s (mkT 0 .nil L) L.length s.heap.objs.size 0 s.toks s.gens.size [] where
  size:=rfl
  at' i a o e:=by
    rw [mkT_at] at e
    have hi:i<L.length:=by
      rcases Nat.lt_or_ge i L.length with q | q
      · exact q
      · rw [List.getElem?_eq_none q] at e; cases e
    exact ⟨hi,S.at' _ (List.mem_of_getElem? e)⟩
  ne i j a b o o' e e' hij q:=by
    rw [mkT_at] at e e'
    have h1:L.as[i]? = some a:=by simp [Led.as,List.getElem?_map,e]
    have h2:L.as[j]? = some b:=by simp [Led.as,List.getElem?_map,e']
    subst q
    have hi:i<L.as.length:=by
      rcases Nat.lt_or_ge i L.as.length with q | q
      · exact q
      · rw [List.getElem?_eq_none q] at h1; cases h1
    exact hij ((List.getElem?_inj hi S.nd).mp (h1.trans h2.symm))
  old:=S.old
  ap i a o e:=S.ap _ (by rw [mkT_at] at e; exact List.mem_of_getElem? e)
  fr i a o e:= .inl (by rw [mkT_at] at e; rw [S.own]; exact List.mem_map.mpr ⟨_,List.mem_of_getElem? e,rfl⟩)
  keep b o e _:=by rw [S.h₀] at e; exact e
  le:=by rw [S.h₀]; exact Nat.le_refl _
  toks:=rfl
  gens:=⟨s.gens,rfl,by simp,S.bare⟩
  drawn:=S.d.symm
  os:=S.os.symm
theorem seg_fin {V:Cfg} (H:V.Ok) {s:Shared} {L:Led} (S:Starts V s L) {O:List Frame} (hO:OuterOk V O) {c:Code} {p:Pos} {fuel N:Nat} {Q:Result ⊕ Code→Shared→Prop}
    (h:OutOk V Q (simM V fuel N (mkT 0 .nil L) L.length s.heap.objs.size 0 s.toks s.gens.size [] [] [] [] [] [] c p [] (V.den c))):FinA V.M s ⟨V.M.den c,c,p,O⟩ O Q:=by
  have z:=simS V H fuel _ _ _ _ _ _ _ _ _ _ _ _ _ _ _ _ _ s O Q h (rep_start S) hO
  rw [H.den] at z
  exact z
theorem kept_of {V:Cfg} {s s' : Shared} {L:Led} (S:Starts V s L) {ids:List Nat} {rep:Rp} {base off tk gb:Nat} (P:Pst V s' ids rep base off tk gb) (hb:Bare s'):Kept s s' L.as where
  keep b o e hn:=P.keep b o (by rw [S.h₀]; exact e) (by rw [S.own]; exact hn)
  le:=by have:=P.le; rw [S.h₀] at this; rw [P.size]; exact this
  bare _:=hb
  drawn:=P.drawn.trans S.d
  os:=P.os.trans S.os
theorem all_of {V:Cfg} {s' : Shared} {ids:List Nat} {F:Led} {base off tk gb:Nat} (P:Pst V s' ids (F.map some) base off tk gb):AllAt s' F:=fun x hx =>
  (P.at' (some x) x.1 x.2 (List.mem_map.mpr ⟨x,hx,rfl⟩) rfl).1
theorem fin_ret {M:Model} {s:Shared} {c:Code} {p:Pos} {O:List Frame} {P:Result→Shared→Prop} (h:FinA M s ⟨M.den c,c,p,O⟩ O (fun x s' => match x with | .inl r=>P r s' | .inr _=>False)) : ∃ r s',EndsAt M s c p O s' r∧P r s' :=by
  obtain ⟨s',c',p',⟨r,hc,hq⟩ | ⟨c₁,_,hc,hq⟩⟩:=h
  · exact ⟨r,s',⟨c',p',hc⟩,hq⟩
  · exact hq.elim
noncomputable def zipU:List Nat→Led→List (Nat × Addr × Obj)
  | i :: is,x :: L=>(i,x.1,x.2) :: zipU is L
  | _,_=>[]
theorem zipU_mem : ∀ {is:List Nat} {L:Led} {x},x∈zipU is L→(x.2.1,x.2.2)∈L
  | [],[],_,h=>nomatch h
  | [],_ :: _,_,h=>nomatch h
  | _ :: _,[],_,h=>nomatch h
  | i :: is,y :: L,x,h=>by
    rcases List.mem_cons.mp h with rfl | h
    · exact .head _
    · exact .tail _ (zipU_mem h)
theorem zipU_of : ∀ {is:List Nat} {L:Led} {y},is.length=L.length→y∈L → ∃ x∈zipU is L,x.2=y
  | [],[],_,_,h=>nomatch h
  | [],_ :: _,_,e,_=>nomatch e
  | _ :: _,[],_,e,_=>nomatch e
  | i :: is,z :: L,y,e,h=>by
    rcases List.mem_cons.mp h with rfl | h
    · exact ⟨_, .head _,rfl⟩
    · obtain ⟨x,hx,q⟩:=zipU_of (Nat.succ.inj e) h
      exact ⟨x, .tail _ hx,q⟩
theorem zipU_fst : ∀ {is:List Nat} {L:Led},is.length=L.length→(zipU is L).map (·.1)=is
  | [],[],_=>rfl
  | [],_ :: _,e=>nomatch e
  | _ :: _,[],e=>nomatch e
  | i :: is,z :: L,e=>congrArg (i :: ·) (zipU_fst (Nat.succ.inj e))
theorem eff_of {s s' : Shared} {r:Result} {ix:List Nat} {F news:Led} (K:Kept s s' F.as) (hF:AllAt s' F) (hn:AllAt s' news) (hlo : ∀ x∈news,s.heap.objs.size≤x.1) (nd:news.as.Nodup) (ixn:ix.Nodup) (hl:ix.length=F.length) :
    EffOk ⟨r,zipU ix F,news,s'.heap.objs.size,s'.toks,s'.gens.size⟩ s s' where
  size:=rfl
  le:=K.le
  upd x hx:=hF _ (zipU_mem hx)
  new x hx:=⟨hn x hx,hlo x hx⟩
  nd:=nd
  updi:=by show ((zipU ix F).map _).Nodup; rw [zipU_fst hl]; exact ixn
  keep b o e hne:=K.keep b o e fun q=>by
    obtain ⟨y,hy,rfl⟩:=List.mem_map.mp q
    obtain ⟨x,hx,e2⟩:=zipU_of hl hy
    exact hne x hx (by rw [e2])
  toks:=rfl
  gens:=rfl
  bare:=K.bare
  drawn:=K.drawn
  os:=K.os
end Mine
end
section
open PySem PySem.W PySem.W.X PySem.Calls PyProof.Rows PySem.SeqAt
namespace Mine
noncomputable def detT (deq:(a b:String)→Decidable (a=b)) (r:Ora):Nat→Code→LT→Nat→Nat→Nat→Nat→Option DetR:=fun j c T n1 n2 tk a=>match j with
  | 0=>detContains deq c T n1 tk
  | 1=>detIndex deq c T n1 tk
  | 2=>detTupNe deq c T n1 n2 tk
  | 3=>dAdd deq c tk
  | 4=>dMul deq c tk
  | 5=>dRepr deq c tk
  | 6=>dStrAt deq r.cs c n2 tk
  | 7=>dLen deq c tk
  | 8=>dSlice deq c T n1 tk
  | 9=>dJoin deq "list" c T n1 tk
  | 10=>dJoin deq "tuple" c T n1 tk
  | 11=>dRangeIter deq c T n1 tk a
  | _=>none
noncomputable def dagT (deq:(a b:String)→Decidable (a=b)) (r:Ora):Nat→Code→LT→Nat→Nat→Nat→Nat→Option DetR:=fun j c T n1 n2 tk _=>match j with
  | 0=>dagSet deq 1 c T n1 n2 tk
  | 1=>gAppend deq c T n1 tk
  | 2=>gPop deq c T n1 tk r.px r.pv
  | 3=>gItem deq r.vs c T n1 n2 tk
  | 4=>gListNext deq r.vs r.ln c T n1 n2 tk
  | 5=>gAscNext deq r.cs c T n1 n2 tk
  | _=>none
noncomputable def VD (D:Dn) (outer:List (Code × Pos)) (ids:List Nat) (g:Gh) (r:Ora:={}):Cfg:=mkV D outer (detT D.deq r) (dagT D.deq r) ids g r
noncomputable abbrev Vk (w:World) (outer:List (Code × Pos)) (ids:List Nat) (g:Gh) (r:Ora:={}):Cfg:=VD (DF w) outer ids g r
noncomputable def exsNd (l:List (List Nat)):Bool:=l.all fun e=>decide e.Nodup
theorem Vk_ok (w:World) (outer:List (Code × Pos)) (ids:List Nat) (g:Gh) (r:Ora) (nd:ids.Nodup) (ha : ∀ x∈r.alts,x.1=x.2) (hx:exsNd r.exs=true):(Vk w outer ids g r).Ok where
  exs:=fun e he=>of_decide_eq_true (List.all_eq_true.mp hx e he)
  alts:=ha
  den:=denF_eq
  par:=rfl
  parTF:=par_TF _ _
  det:=by
    intro j c T n₁ n₂ tk a x h hc he hu
    match j,h with
    | 0,h=>exact detContains_ok _ _ c T n₁ n₂ tk a x h hc he hu
    | 1,h=>exact detIndex_ok _ _ c T n₁ n₂ tk a x h hc he hu
    | 2,h=>exact detTupNe_ok _ _ c T n₁ n₂ tk a x h hc he hu
    | 3,h=>exact dAdd_ok _ _ c T n₁ n₂ tk a x h hc he hu
    | 4,h=>exact dMul_ok _ _ c T n₁ n₂ tk a x h hc he hu
    | 5,h=>exact dRepr_ok _ _ c T n₁ n₂ tk a x h hc he hu
    | 6,h=>exact dStrAt_ok _ _ _ c T n₁ n₂ tk a x h hc he hu
    | 7,h=>exact dLen_ok _ _ c T n₁ n₂ tk a x h hc he hu
    | 8,h=>exact dSlice_ok _ _ c T n₁ n₂ tk a x h hc he hu
    | 9,h=>exact dJoin_list _ _ c T n₁ n₂ tk a x h hc he hu
    | 10,h=>exact dJoin_tuple _ _ c T n₁ n₂ tk a x h hc he hu
    | 11,h=>exact dRangeIter_ok _ _ c T n₁ n₂ tk a x h hc he hu
    | n+12,h=>cases h
  dag:=by
    intro j c T n₁ n₂ tk a x h hc he hu
    match j,h with
    | 0,h=>exact dagSet_ok _ _ 1 c T n₁ n₂ tk a x h hc he hu
    | 1,h=>exact gAppend_ok _ _ c T n₁ n₂ tk a x h hc he hu
    | 2,h=>exact gPop_ok _ _ _ _ c T n₁ n₂ tk a x h hc he hu
    | 3,h=>exact gItem_ok _ _ _ c T n₁ n₂ tk a x h hc he hu
    | 4,h=>exact gListNext_ok _ _ _ _ c T n₁ n₂ tk a x h hc he hu
    | 5,h=>exact gAscNext_ok _ _ _ c T n₁ n₂ tk a x h hc he hu
    | n+6,h=>cases h
  nd:=nd
end Mine
end
section
open PySem PySem.W PySem.W.X PySem.Calls PyProof.Rows PySem.SeqAt
namespace Mine
noncomputable def GoS (n:Nat):Step→Prop | .go s' _=>n≤s'.heap.objs.size | _=>True
theorem stepK_go {den:Code→Sem Fin} {prog:Program} {w:World} (s:Shared) (th:Thread):GoS s.heap.objs.size (stepK den prog w s th):=by
  obtain ⟨heap,gens,drawn,toks,os⟩:=s
  obtain ⟨cur,code,pos,stack⟩:=th
  cases cur with
  | pure fin =>
    cases fin with
    | done f =>
      simp only [stepK,step]
      split
      · unfold finish; split <;> trivial
      · exact Nat.le_refl _
      · exact Nat.le_refl _
    | again c=>exact Nat.le_refl _
  | raise e =>
    simp only [stepK,step]
    split
    · unfold finish; split <;> trivial
    · exact Nat.le_refl _
    · exact Nat.le_refl _
  | update a q f k =>
    simp only [stepK,step]
    split
    · show heap.objs.size≤(heap.update a f).objs.size; rw [(Heap.SameBut.update ..).1]; exact Nat.le_refl _
    · trivial
  | alloc o k =>
    show heap.objs.size≤(heap.push o).objs.size; rw [Heap.size_push]; exact Nat.le_succ _
  | call c hd g l k=>exact Nat.le_refl _
  | _ =>
    simp only [stepK,step]
    repeat' split
    all_goals first
      | exact Nat.le_refl _
      | trivial
theorem stepK_size {den:Code→Sem Fin} {prog:Program} {w:World} {s s' : Shared} {th th' : Thread} (h:stepK den prog w s th = .go s' th'):s.heap.objs.size≤s'.heap.objs.size:=by
  have z:=stepK_go (den:=den) (prog:=prog) (w:=w) s th
  rw [h] at z
  exact z
theorem comes_size {M:Model} {s s' : Shared} {th th' : Thread} (h:Comes M s th s' th'):s.heap.objs.size≤s'.heap.objs.size:=by
  obtain ⟨n,hn⟩:=h
  induction n generalizing s th with
  | zero =>
    have e:Run.running s th = .running s' th' :=hn
    injection e with e1 e2
    rw [e1]; exact Nat.le_refl _
  | succ n ih =>
    rw [runN_succ] at hn
    cases hs:M.step s th with
    | go s₂ t₂ =>
      simp only [hs] at hn
      refine Nat.le_trans ?_ (ih hn)
      unfold Model.step stepI at hs
      split at hs
      · cases hs
      · exact stepK_size hs
    | halt o s₂ => simp only [hs] at hn; cases hn
end Mine
end
section
open PySem PySem.W PySem.W.X PySem.Calls PyProof.Rows PySem.SeqAt
namespace Mine
noncomputable def listO (xs:List Value) (n:Nat):Obj:=⟨.type "list", none, .seq xs.toArray n, #[]⟩
noncomputable def outLaw (b:List Stmt) (lenv:PySem.Env) (p1 p2:Pos):Stk:=[(.func b lenv,p1),(.builtin "claim.caller" ⟨[],[]⟩,p2)]
theorem starts_of (w:World) {ol:Stk} {ids:List Nat} {r:Ora} {s:Shared} {L:Led} (hl:AllAt s L) (nd:L.as.Nodup) (ap:kNone w L) (old:Old w s) (bare:Bare s) :
    Starts (Vk w ol ids ⟨s.heap,L.as,s.drawn,s.os⟩ r) s L:=⟨rfl,rfl,rfl,rfl,hl,nd,ap,old,bare⟩
noncomputable def exsN:Nat→Nat→List (List Nat)
  | 0,_=>[]
  | n+1,i=>[i] :: exsN n (i+1)
noncomputable def exs1:List (List Nat):=[] :: exsN 300 0
theorem no_alts : ∀ x∈(([]:List (Sem Fin × Sem Fin))),x.1=x.2:=fun _ h=>nomatch h
theorem no_cond : ∀ x∈([]:List Prop),x:=fun _ h=>nomatch h
noncomputable def sgD (D:Dn) (ol:Stk) (ids:List Nat) (r:Ora) (L:Led) (g:Gh) (base tk gb:Nat) (c:Code) (p:Pos):Init:=
  {V:=VD D ol ids g r,T:=mkT 0 .nil L,m:=L.length,base,off:=0,tk,gb,gl:=[],c,p}
noncomputable abbrev sg (w:World) (ol:Stk) (ids:List Nat) (r:Ora) (L:Led) (g:Gh) (base tk gb:Nat) (c:Code) (p:Pos):Init:=sgD (DF w) ol ids r L g base tk gb c p
noncomputable abbrev ghO (s:Shared) (L:Led):Gh:=⟨s.heap,L.as,s.drawn,s.os⟩
structure Ready (w:World) (s:Shared) (L:Led):Prop where
  at' : AllAt s L
  nd:L.as.Nodup
  ap:kNone w L
  old:Old w s
  bare:Bare s
theorem Ready.starts {w:World} {ol:Stk} {ids:List Nat} {r:Ora} {s:Shared} {L:Led} (R:Ready w s L):Starts (Vk w ol ids (ghO s L) r) s L:=⟨rfl,rfl,rfl,rfl,R.at',R.nd,R.ap,R.old,R.bare⟩
theorem Ready.ofPst {w:World} {ol:Stk} {ids:List Nat} {g:Gh} {r:Ora} {s:Shared} {L:Led} {base off tk:Nat} (P : ∃ ids' gb,ids'.Nodup∧Pst (Vk w ol ids g r) s ids' (L.map some) base off tk gb) (hb:Bare s):Ready w s L:=by
  obtain ⟨ids',gb,nd,P⟩:=P
  refine ⟨all_of P,List.pairwise_iff_getElem.mpr fun i j hi hj hij => ?_,fun x hx=>(P.at' (some x) x.1 x.2 (List.mem_map.mpr ⟨x,hx,rfl⟩) rfl).2.1,P.old,hb⟩
  have hi' : i<L.length:=by simpa [Led.as] using hi
  have hj' : j<L.length:=by simpa [Led.as] using hj
  have key : ∀ (k:Nat) (hk:k<L.length),(L.map some)[k]? = some (some ((L[k]).1,(L[k]).2)):=fun k hk=>by rw [List.getElem?_map,List.getElem?_eq_getElem hk]; rfl
  have z:=P.ne nd i j _ _ _ _ (Nat.ne_of_lt hij) (key i hi') (key j hj')
  simpa [Led.as] using z
theorem Ready.pick {w:World} {s:Shared} {L:Led} (R:Ready w s L) (ix:List Nat) (nd:ix.Nodup):Ready w s (ix.filterMap fun i=>L[i]?) where
  at' x hx:=by
    obtain ⟨i,_,e⟩:=List.mem_filterMap.mp hx
    exact R.at' x (List.mem_of_getElem? e)
  nd:=by
    have h : ∀ (ix:List Nat),ix.Nodup→(ix.filterMap fun i=>L[i]?).Pairwise fun x y=>x.1≠y.1:=fun ix nd=>by
      induction ix with
      | nil=>exact .nil
      | cons i ix ih =>
        obtain ⟨n1,n2⟩:=List.nodup_cons.mp nd
        rw [List.filterMap_cons]
        split
        · exact ih n2
        · rename_i x e
          refine List.pairwise_cons.mpr ⟨fun y hy q => ?_,ih n2⟩
          obtain ⟨j,hj,f⟩:=List.mem_filterMap.mp hy
          have a:L.as[i]? = some x.1:=by rw [Led.as,List.getElem?_map,e]; rfl
          have b:L.as[j]? = some x.1:=by rw [Led.as,List.getElem?_map,f,q]; rfl
          have hi:i<L.as.length:=by
            rcases Nat.lt_or_ge i L.as.length with h | h
            · exact h
            · rw [List.getElem?_eq_none h] at a; cases a
          exact n1 ((List.getElem?_inj hi R.nd).mp (a.trans b.symm) ▸ hj)
    exact (List.pairwise_map).mpr (h ix nd)
  ap x hx:=by
    obtain ⟨i,_,e⟩:=List.mem_filterMap.mp hx
    exact R.ap x (List.mem_of_getElem? e)
  old:=R.old
  bare:=R.bare
theorem AllAt.pick {s:Shared} {L:Led} (h:AllAt s L) (ix:List Nat):AllAt s (ix.filterMap fun i=>L[i]?):=fun x hx=>by
  obtain ⟨i,_,e⟩:=List.mem_filterMap.mp hx
  exact h x (List.mem_of_getElem? e)
theorem ok_cutP {w:World} {ol:Stk} {ids:List Nat} {g:Gh} {r:Ora} {Q:Result ⊕ Code→Shared→Prop} {o:Out} {L:Led} {CS:List Prop} {c:Code} (h:isCut o c (L.map some) CS) (hc : ∀ x∈CS,x)
    (hq : ∀ s p O base off tk,(∃ ids' gb,ids'.Nodup∧Pst (Vk w ol ids g r) s ids' (L.map some) base off tk gb)→Bare s→AtCall p O o.row.stk → ∃ e s',EndsAt (model pw w) s c p O s' e.r∧EffOk e s s' ∧ OutOk (Vk w ol ids g r) Q (o.rest e)):OutOk (Vk w ol ids g r) Q o:=by
  cases o with
  | cut c' stk' rep' base' off' tk' gb' EA EB CS' TA TB f =>
    have h:Out.row (.cut c' stk' rep' base' off' tk' gb' EA EB CS' TA TB f)=_:=h
    simp only [Out.row,Row.mk.injEq,Out.EB,Out.TB] at h
    obtain ⟨_,_,rfl,_,rfl,_,_,_,_,rfl,rfl,rfl⟩:=h
    refine ⟨rfl,rfl,hc,fun s p k gg l c₀ st P hb _ hs h1 h2 => ?_⟩
    obtain ⟨ids',P⟩:=P
    exact hq s p (.ret k none gg l c₀ p [] :: st) _ _ _ ⟨ids',_,P⟩ hb ⟨⟨hs,h1,h2⟩,k,gg,l,c₀,st,rfl,h1⟩
  | ret=>have h:Out.row _=_:=h; simp [Out.row] at h
  | again=>have h:Out.row _=_:=h; simp [Out.row] at h
  | fail=>have h:Out.row _=_:=h; simp [Out.row] at h
theorem ok_cutL {w:World} {ol:Stk} {ids:List Nat} {g:Gh} {r:Ora} {Q:Result ⊕ Code→Shared→Prop} {o:Out} {L:Led} {CS:List Prop} {c:Code} (h:isCut o c (L.map some) CS) (hc : ∀ x∈CS,x)
    (hq : ∀ s p O,Ready w s L→g.h₀.objs.size≤s.heap.objs.size→AtCall p O o.row.stk → ∃ e s',EndsAt (model pw w) s c p O s' e.r∧EffOk e s s' ∧ OutOk (Vk w ol ids g r) Q (o.rest e)):OutOk (Vk w ol ids g r) Q o:=
  ok_cutP h hc fun s p O _ _ _ P hb hO=>hq s p O (Ready.ofPst P hb) (by
    obtain ⟨_,_,_,P⟩:=P
    have hle:=P.le
    rw [← P.size] at hle
    exact hle) hO
theorem ok_cutR {w:World} {ol:Stk} {ids:List Nat} {g:Gh} {r:Ora} {Q:Result ⊕ Code→Shared→Prop} {o:Out} {L:Led} {CS:List Prop} {c:Code} (h:isCut o c (L.map some) CS) (hc : ∀ x∈CS,x)
    (hq : ∀ s p O,Ready w s L→AtCall p O o.row.stk → ∃ e s',EndsAt (model pw w) s c p O s' e.r∧EffOk e s s' ∧ OutOk (Vk w ol ids g r) Q (o.rest e)):OutOk (Vk w ol ids g r) Q o:=
  ok_cutL h hc fun s p O R _ hO=>hq s p O R hO
theorem Kept.lessP {s s' : Shared} {A B:List Addr} (K:Kept s s' A) {D:Led} (h:AllAt s D) (h' : AllAt s' D) (ix:List Nat) (e:A=ix.filterMap fun i=>(B++D.as)[i]?):Kept s s' B where
  keep b o f hb:=by
    by_cases q:b∈D.as
    · obtain ⟨x,hx,rfl⟩:=List.mem_map.mp q
      rw [h x hx] at f
      cases f
      exact h' x hx
    · refine K.keep b o f fun hm => ?_
      rw [e] at hm
      obtain ⟨i,_,g⟩:=List.mem_filterMap.mp hm
      exact (List.mem_append.mp (List.mem_of_getElem? g)).elim hb q
  le:=K.le
  bare:=K.bare
  drawn:=K.drawn
  os:=K.os
theorem AllAt.of {s:Shared} {L D:Led} (h:AllAt s L) (ix:List Nat) (e:(ix.filterMap fun i=>L[i]?)=D):AllAt s D:=e ▸ h.pick ix
theorem Ready.of {w:World} {s:Shared} {L D:Led} (R:Ready w s L) (ix:List Nat) (nd:ix.Nodup) (e:(ix.filterMap fun i=>L[i]?)=D):Ready w s D:=e ▸ R.pick ix nd
theorem Ready.ne {w:World} {s:Shared} {L:Led} (R:Ready w s L) (i j:Nat) {x y:Addr × Obj} (hi:L[i]? = some x) (hj:L[j]? = some y) (h:i≠j):x.1≠y.1:=fun q=>h (by
  have a:L.as[i]? = some x.1:=by rw [Led.as,List.getElem?_map,hi]; rfl
  have b:L.as[j]? = some x.1:=by rw [Led.as,List.getElem?_map,hj,q]; rfl
  have k:i<L.as.length:=by
    rcases Nat.lt_or_ge i L.as.length with h | h
    · exact h
    · rw [List.getElem?_eq_none h] at a; cases a
  exact (List.getElem?_inj k R.nd).mp (a.trans b.symm))
theorem Ready.one {w:World} {s:Shared} {A B C:Led} {o:Addr × Obj} (R:Ready w s (A++(B++C))) (h:o∈B):Ready w s (A++o :: C):=by
  have hs:(A++o :: C).Sublist (A++(B++C)):=List.Sublist.append (List.Sublist.refl A) (List.Sublist.append (List.singleton_sublist.mpr h) (List.Sublist.refl C))
  exact ⟨fun x hx=>R.at' x (hs.subset hx),R.nd.sublist (hs.map _),fun x hx=>R.ap x (hs.subset hx),R.old,R.bare⟩
theorem eff_new {s s' : Shared} {r:Result} {news:Led} (K:Kept s s' []) (hn:AllAt s' news) (hlo : ∀ a∈news.as,s.heap.objs.size≤a) (nd:news.as.Nodup):EffOk ⟨r,[],news,s'.heap.objs.size,s'.toks,s'.gens.size⟩ s s' :=
  eff_of (ix:=[]) (F:=[]) K (fun _ h=>nomatch h) hn (fun x hx=>hlo x.1 (List.mem_map.mpr ⟨x,hx,rfl⟩)) nd List.nodup_nil rfl
theorem eff_upd {s s' : Shared} {r:Result} {ix:List Nat} {F:Led} (K:Kept s s' F.as) (hF:AllAt s' F) (ixn:ix.Nodup) (hl:ix.length=F.length):EffOk ⟨r,zipU ix F,[],s'.heap.objs.size,s'.toks,s'.gens.size⟩ s s' :=
  eff_of K hF (fun _ h=>nomatch h) (fun _ h=>nomatch h) List.nodup_nil ixn hl
theorem nd_one (a:Nat):[a].Nodup:=List.nodup_cons.mpr ⟨(fun h=>nomatch h),List.nodup_nil⟩
theorem lo_one {a b:Nat} (h:b≤a) : ∀ x∈[a],b≤x:=fun x hx=>by rw [List.mem_singleton.mp hx]; exact h
theorem nd_two {a b:Nat} (h:a≠b):[a,b].Nodup:=List.nodup_cons.mpr ⟨fun q=>h (List.mem_singleton.mp q),nd_one b⟩
theorem lo_two {a b n:Nat} (h:n≤a) (h' : n≤b) : ∀ x∈[a,b],n≤x:=fun x hx=>(List.mem_cons.mp hx).elim (fun e=>e ▸ h) (lo_one h' x)
theorem Kept.monoP {s s' : Shared} {A B:List Addr} (K:Kept s s' A) (ix:List Nat) (e:A=ix.filterMap fun i=>B[i]?):Kept s s' B:=K.mono fun a ha=>by
  rw [e] at ha
  obtain ⟨i,_,g⟩:=List.mem_filterMap.mp ha
  exact List.mem_of_getElem? g
theorem AllAt.snoc {s:Shared} {L:Led} (h:AllAt s L) {a:Addr} {o:Obj} (g:s.heap.get? a=some o):AllAt s (L++[(a,o)]):=fun x hx=>by
  rcases List.mem_append.mp hx with hx | hx
  · exact h x hx
  · rw [List.mem_singleton.mp hx]; exact g
theorem seg_ok {w:World} {ol:Stk} {ids:List Nat} {r:Ora} {s:Shared} {L:Led} {c:Code} {p:Pos} {O:List Frame} {fuel N:Nat} {P:Result→Shared→Prop} (R:Ready w s L) (hO:OutIs O ol) (nd:ids.Nodup) (ha : ∀ x∈r.alts,x.1=x.2)
    (h:OutOk (Vk w ol ids (ghO s L) r) (fun x s' => match x with | .inl r=>P r s' | .inr _=>False) ((sg w ol ids r L (ghO s L) s.heap.objs.size s.toks s.gens.size c p).run fuel N)) (hx:exsNd r.exs=true:=by kernel_rfl) : ∃ r s',EndsAt (model pw w) s c p O s' r∧P r s' :=
  fin_ret (seg_fin (Vk_ok w ol ids _ r nd ha hx) R.starts ⟨hO.where_,hO.top,hO.past⟩ h)
theorem seg_turn {w:World} {ol:Stk} {ids:List Nat} {r:Ora} {s:Shared} {L:Led} {c c' : Code} {p:Pos} {O:List Frame} {fuel N:Nat} {P:Shared→Prop} (R:Ready w s L) (hO:OutIs O ol) (nd:ids.Nodup) (ha : ∀ x∈r.alts,x.1=x.2)
    (h:OutOk (Vk w ol ids (ghO s L) r) (fun x s' => match x with | .inl _=>False | .inr c₁ => c₁ = c' ∧ P s') ((sg w ol ids r L (ghO s L) s.heap.objs.size s.toks s.gens.size c p).run fuel N)) (hx:exsNd r.exs=true:=by kernel_rfl) :
    ∃ s' p',Comes (model pw w) s ⟨(model pw w).den c,c,p,O⟩ s' ⟨(model pw w).den c',c',p',O⟩∧P s' :=by
  have z:=seg_fin (Vk_ok w ol ids (ghO s L) r nd ha hx) R.starts ⟨hO.where_,hO.top,hO.past⟩ h
  obtain ⟨s',c₁,p',⟨r',hc',hq⟩ | ⟨c₂,e,hc',rfl,hP⟩⟩:=z
  · exact hq.elim
  · subst e
    exact ⟨s',p',hc',hP⟩
theorem EndsAt.after {w:World} {s s₁ s₂ : Shared} {c c' : Code} {p p' : Pos} {O:List Frame} {r:Result} (h:Comes (model pw w) s ⟨(model pw w).den c,c,p,O⟩ s₁ ⟨(model pw w).den c',c',p',O⟩) (h' : EndsAt (model pw w) s₁ c' p' O s₂ r):EndsAt (model pw w) s c p O s₂ r:=by
  obtain ⟨a,b,h'⟩:=h'
  exact ⟨a,b, .trans h h'⟩
theorem ok_pcut {V:Cfg} {Q:Result ⊕ Code→Shared→Prop} {o:Out} {rep:Rp} {CS:List Prop} {c:Code} {R:Result→Prop} (h:isCut o c rep CS) (hc : ∀ x∈CS,x)
    (hq : ∀ s p O base off tk,(∃ ids gb,Pst V s ids rep base off tk gb)→(∀ x∈s.gens,x.bare=true)→AtCall p O o.row.stk → ∃ r s',EndsAt V.M s c p O s' r∧Kept s s' []∧R r)
    (hn : ∀ r b k g,R r→OutOk V Q (o.rest ⟨r,[],[],b,k,g⟩)):OutOk V Q o:=
  ok_cut h hc fun s p O base off tk P hb hO=>by
    obtain ⟨r,s',hE,hK,hr⟩:=hq s p O base off tk P hb hO
    refine ⟨_,s',hE,eff_of (ix:=[]) (F:=[]) (news:=[]) hK (fun _ h=>nomatch h) (fun _ h=>nomatch h) (fun _ h=>nomatch h) List.nodup_nil List.nodup_nil rfl,hn _ _ _ _ hr⟩
theorem ok_pcutR {w:World} {ol:Stk} {ids:List Nat} {g:Gh} {r:Ora} {Q:Result ⊕ Code→Shared→Prop} {o:Out} {L:Led} {CS:List Prop} {c:Code} {R:Result→Prop} (h:isCut o c (L.map some) CS) (hc : ∀ x∈CS,x)
    (hq : ∀ s p O,Ready w s L→AtCall p O o.row.stk → ∃ q s',EndsAt (model pw w) s c p O s' q∧Kept s s' []∧R q)
    (hn : ∀ q b k g',R q→OutOk (Vk w ol ids g r) Q (o.rest ⟨q,[],[],b,k,g'⟩)):OutOk (Vk w ol ids g r) Q o:=
  ok_cutR h hc fun s p O R1 hO=>by
    obtain ⟨q,s',hE,hK,hr⟩:=hq s p O R1 hO
    exact ⟨_,s',hE,eff_of (ix:=[]) (F:=[]) (news:=[]) hK (fun _ h=>nomatch h) (fun _ h=>nomatch h) (fun _ h=>nomatch h) List.nodup_nil List.nodup_nil rfl,hn _ _ _ _ hr⟩
theorem pst_at {V:Cfg} {s:Shared} {F:Led} {base off tk:Nat} (P : ∃ ids gb,Pst V s ids (F.map some) base off tk gb):AllAt s F:=by
  obtain ⟨ids,gb,P⟩:=P
  exact all_of P
theorem seg_ret {w:World} {ol:Stk} {ids:List Nat} {r:Ora} {s:Shared} {L F:Led} {c:Code} {p:Pos} {O:List Frame} {fuel N:Nat} {res:Result} {CS:List Prop} (R:Ready w s L) (hO:OutIs O ol) (nd:ids.Nodup) (ha : ∀ x∈r.alts,x.1=x.2)
    (h:isRet ((sg w ol ids r L (ghO s L) s.heap.objs.size s.toks s.gens.size c p).run fuel N) res (F.map some) CS) (hc : ∀ x∈CS,x) (hx:exsNd r.exs=true:=by kernel_rfl) :
    ∃ s',EndsAt (model pw w) s c p O s' res∧Kept s s' L.as∧AllAt s' F:=by
  obtain ⟨r',s',hE,rfl,hK,hA⟩:=seg_ok (P:=fun r' s' => r' = res∧Kept s s' L.as∧AllAt s' F) R hO nd ha (hx:=hx) (h:=ok_ret h hc fun s' _ _ _ gb P hb=>⟨rfl,kept_of (R.starts (ol:=ol) (ids:=ids) (r:=r)) P hb,all_of P⟩)
  exact ⟨s',hE,hK,hA⟩
theorem seg_again {w:World} {ol:Stk} {ids:List Nat} {r:Ora} {s:Shared} {L F:Led} {c c' : Code} {p:Pos} {O:List Frame} {fuel N:Nat} {CS:List Prop} (R:Ready w s L) (hO:OutIs O ol) (nd:ids.Nodup) (ha : ∀ x∈r.alts,x.1=x.2)
    (h:isAgain ((sg w ol ids r L (ghO s L) s.heap.objs.size s.toks s.gens.size c p).run fuel N) c' (F.map some) CS) (hc : ∀ x∈CS,x) (hx:exsNd r.exs=true:=by kernel_rfl) :
    ∃ s' p',Comes (model pw w) s ⟨(model pw w).den c,c,p,O⟩ s' ⟨(model pw w).den c',c',p',O⟩∧Kept s s' L.as∧AllAt s' F:=by
  have z:=seg_fin (Q:=fun x s' => match x with | .inl _=>False | .inr c₁ => c₁ = c' ∧ Kept s s' L.as∧AllAt s' F) (O:=O) (Vk_ok w ol ids (ghO s L) r nd ha hx) R.starts ⟨hO.where_,hO.top,hO.past⟩
    (ok_again h hc fun s' _ _ _ gb P hb=>⟨rfl,kept_of (R.starts (ol:=ol) (ids:=ids) (r:=r)) P hb,all_of P⟩)
  obtain ⟨s',c₁,p',⟨r',hc',hq⟩ | ⟨c₂,e,hc',rfl,hK,hA⟩⟩:=z
  · exact hq.elim
  · subst e
    exact ⟨s',p',hc',hK,hA⟩
noncomputable def accO (d:Addr) (xs:List Value) (n:Nat):Obj:=⟨.ref 101,some d, .seq xs.toArray n, #[]⟩
noncomputable def initS:Str:=⟨#[95,105,110,105,116,105,97,108,95,115,105,122,101]⟩
noncomputable def sizeO (P:Params) (z:Int) (tk tz n:Nat):Obj:=⟨.type "dict", none, .dict #[⟨PyData.keyHash P initS, .str initS tk, .int z tz⟩] n, #[]⟩
noncomputable def intsO (xs:List (Int × Nat)) (n:Nat):Obj:=listO (xs.map fun x => .int x.1 x.2) n
noncomputable def namesO (t0 t1 t2 t3 n:Nat):Obj:=listO [.str ⟨#[34]⟩ t0, .str ⟨#[92]⟩ t1, .str ⟨#[32]⟩ t2, .str ⟨#[10]⟩ t3] n
noncomputable def ordTok (tk:Nat):Nat→Nat | 0=>tk+4 | 1=>tk+15 | 2=>tk+28 | _=>tk+56
noncomputable def ordO (tk:Nat) (q:List Nat):Obj:=listO (q.map fun i => .int (Int.ofNat i) (ordTok tk i)) 0
noncomputable def outComp (e:PySem.Expr) (gs:List Comprehension) (sc:Scope) (ps:Pos) (it acc:Value) (env lenv:PySem.Env) (b:List Stmt) (p1 p2 p3:Pos):Stk:=
  [(.compLoop (.ListComp e gs sc ps) 0 it acc env,p1),(.func b lenv,p2),(.builtin "claim.caller" ⟨[],[]⟩,p3)]
theorem lib_call {w:World} {f:Value} {args:List Value} {Q:Value→Shared→Prop} {s:Shared} {p:Pos} {O:List Frame} {stk:Stk} (h:AtCall p O stk)
    (hw : ∀ A:Around,A.handled=none→A.units=unitsOf stk→wpAny (model pw w) A (call f args) Q (fun _ _=>False) s) :
    ∃ v s',EndsAt (model pw w) s (.call f ⟨args,[]⟩) p O s' (.ok (.ret v))∧Q v s' :=by
  obtain ⟨⟨hs,h1,h2⟩,k,g,l,c₀,st,rfl,ht⟩:=h
  obtain ⟨s',c',p',v,hc,hq⟩:=call_det (prog:=pw) (w:=w) (f:=f) (args:=args) (s:=s) (p:=p) (k:=k) (g:=g) (l:=l) (c₀ :=c₀) (st:=st) (Q:=Q)
    (fun A hh hu=>hw A (hh.trans ht) (hu.trans (congrArg unitsOf hs)))
  exact ⟨v,s',⟨c',p',hc⟩,hq⟩
theorem ends_size {w:World} {s s' : Shared} {c:Code} {p:Pos} {O:List Frame} {r:Result} (h:EndsAt (model pw w) s c p O s' r):s.heap.objs.size≤s'.heap.objs.size:=by
  obtain ⟨_,_,h⟩:=h
  exact comes_size h
theorem kept_grow {w:World} {s:Shared} {c:Code} {p:Pos} {O:List Frame} {r:Result} {h' : Heap} {tk:Nat} (hE:EndsAt (model pw w) s c p O {s with heap:=h',toks:=tk} r) (hk : ∀ b o,s.heap.get? b=some o→h'.get? b=some o):Kept s {s with heap:=h',toks:=tk} []:=
  ⟨fun b o e _=>hk b o e,ends_size hE,fun h=>h,rfl,rfl⟩
theorem intsAre_intsO : ∀ (xs:List (Int × Nat)),IntsAre (xs.map fun x=>Value.int x.1 x.2) (xs.map (·.1))
  | [] => .nil
  | x :: xs => .cons _ _ (intsAre_intsO xs)
inductive ints_of_r (vs:List Value) (ns:List Int):Prop
  | mk : ∀ xs:Array (Int × Tok),(vs.toArray=intItems xs)→(ns=xs.toList.map (·.1))→ints_of_r vs ns
theorem ints_of : ∀ {vs:List Value} {ns:List Int},IntsAre vs ns→ints_of_r vs ns:=fun {vs ns} hi=>by
  obtain ⟨xs,hx⟩:=hi.allInts.items
  refine ⟨xs,hx, ?_⟩
  rw [← nums_intItems,← hx]
  exact (show numsOf vs.toArray.toList=ns from hi.numsOf).symm
theorem call_sum {w:World} {s:Shared} {p:Pos} {O:List Frame} {stk:Stk} (hO:AtCall p O stk) {l:Addr} {vs:List Value} {ns:List Int} {n:Nat} (hl:s.heap.get? l=some (listO vs n)) (hi:IntsAre vs ns) :
    ∃ t s',EndsAt (model pw w) s (.call (.builtin "sum") ⟨[.ref l],[]⟩) p O s' (.ok (.ret (.int ns.sum t)))∧Kept s s' []:=by
  obtain ⟨xs,hx⟩:=hi.allInts.items
  have hl' : s.heap.IsList l (intItems xs):=hx ▸ ⟨_,hl,rfl,n,rfl⟩
  have e1:ns=xs.toList.map (·.1):=by
    rw [← nums_intItems,← hx]
    exact (show numsOf vs.toArray.toList=ns from hi.numsOf).symm
  obtain ⟨v,s',hE,t,h',tk,rfl,rfl,hk⟩:=lib_call (w:=w) (f:= .builtin "sum") (args:=[.ref l]) hO (s:=s) (Q:=fun v s' => ∃ t h' tk,v = .int ns.sum t∧s' = {s with heap:=h',toks:=tk} ∧ ∀ b o,s.heap.get? b=some o→h'.get? b=some o) (fun A hh _=>by
    refine sum_intListG hh hl' fun h' tk t' hk => ?_
    have e2:preSum (numAt xs) xs.size=ns.sum:=by
      rw [preSum_eq,List.take_of_length_le (by simp),e1]
    exact ⟨t',h',tk,by rw [e2],rfl,hk⟩)
  exact ⟨t,_,hE,kept_grow hE hk⟩
theorem call_max {w:World} {s:Shared} {p:Pos} {O:List Frame} {stk:Stk} (hO:AtCall p O stk) {a b:Int} {t u:Tok} :
    ∃ q s',EndsAt (model pw w) s (.call (.builtin "max") ⟨[.int a t, .int b u],[]⟩) p O s' (.ok (.ret (.int (max a b) q)))∧Kept s s' []:=by
  obtain ⟨v,s',hE,h',tk,rfl,rfl,hk⟩:=lib_call (w:=w) (f:= .builtin "max") (args:=[.int a t, .int b u]) hO (s:=s) (Q:=fun v s' => ∃ h' tk,v=(if b>a then .int b u else .int a t)∧s' = {s with heap:=h',toks:=tk} ∧ ∀ b o,s.heap.get? b=some o→h'.get? b=some o) (fun A hh _ =>
    max_two_ints hh fun h' tk hk=>⟨h',tk,rfl,rfl,hk⟩)
  by_cases q:b>a
  · rw [if_pos q] at hE
    rw [show max a b=b from Int.max_eq_right (Int.le_of_lt q)]
    exact ⟨u,_,hE,kept_grow hE hk⟩
  · rw [if_neg q] at hE
    rw [show max a b=a from Int.max_eq_left (Int.not_lt.mp q)]
    exact ⟨t,_,hE,kept_grow hE hk⟩
end Mine
end
section
open PySem PySem.W PySem.W.X PySem.Calls PyProof.Rows PySem.SeqAt
namespace Mine
noncomputable def permOffs:List (Nat × List Nat):=[(111,[3,2,1,0]),(118,[2,3,1,0]),(125,[2,1,3,0]),(132,[2,1,0,3]),(143,[3,1,2,0]),(150,[1,3,2,0]),(157,[1,2,3,0]),(164,[1,2,0,3]),(175,[3,1,0,2]),(182,[1,3,0,2]),(189,[1,0,3,2]),(196,[1,0,2,3]),(207,[3,2,0,1]),(214,[2,3,0,1]),(221,[2,0,3,1]),(228,[2,0,1,3]),(239,[3,0,2,1]),(246,[0,3,2,1]),(253,[0,2,3,1]),(260,[0,2,1,3]),(271,[3,0,1,2]),(278,[0,3,1,2]),(285,[0,1,3,2]),(292,[0,1,2,3])]
noncomputable def perms:List (List Nat):=permOffs.map (·.2)
noncomputable def ordersL (base tk:Nat):Led:=permOffs.map fun x=>(base+x.1,ordO tk x.2)
noncomputable def ordersO (base:Nat):Obj:=listO (permOffs.map fun x => .ref (base+x.1)) 24
noncomputable def N_orders:Nat:=(1025<<<60+0x140001405<<<140+zz78<<<190+0x6018060180001800018000180501405<<<260+zz1<<<390+0x1c0701c0001000004040100100802<<<430+zz11<<<560+0xc0000c0000c00000090000000000024090000701c04<<<600+0xb02c0a0280a0000a000010280a02800028000280a<<<870+zz3<<<1040+0x200802000020000440f0440003c0003c1103c0304010040100400000c0000c0300c090240e0340e0000d0000d0380d008030300c0300c0300000c0000c0300c0902409024000000b02c0b02c0b<<<1100+zz3<<<1730+0x1c000500b<<<1790+zz11<<<1840+0x9024090240902401004000580701c04<<<1880+zz79<<<2020+0x640000000000190640005c170201705c0005c0005c1705c0002000004080200100802<<<2140+zz22<<<2440+0x19064190641906401004000b41705c0805c1700017000170002b06c1b06c0006c0006c000601806000060000a0260a00009800098280981209c2709c2709c0004800048120481906425090250002400024094240081208c2308c2308c0004800048120481906419064000001b06c1b06c1b06c1b0001b0001b0001806018000180002107c210001f0001f0841f048200802008020000120001204812064190781d07800074000741e074020481c0701c0701c00012000120481206419064190000006c1b06c1b06c1b06c0006c0006c1b06c1a0681a0001a000010681a06800068000681a<<<2580+zz79<<<4420+0x220002200022000000c00000000000300c0000b82e0602e0b8000b8000b82e0b80006000004180600100802<<<4540+0x380d83800036000360e036088370dc370dc370002200022088220c0300d4340d4000d0000d0350d002088330cc330cc330002200022088220c0300c030000000c8320c8320c8320c8000c8000c8320c8310c43100031000010c4310c4000c4000c431<<<4980+zz82<<<5770+0xfc3d0fc000f4000f43f0f4220f83e0f83e0f8000880008822088300c03c0ec3c0003b0003b0f03b008220e83a0e83a0e8000880008822088300c0300c000000320c8320c8320c8320003200032<<<5840+zz82<<<6460+0x11844118001100011046110221144511445114000880008822088300c04310843000420004210c42008221044110441104000880008822088300c0300c000000320c8320c8320c8320003200032<<<6530+zz82<<<7150+0x290002900029000000c00000000000300c0000b82e0602e0b8000b8000b800124320c8320003200032<<<7220+0xc0300c0300000012c4b12c4b12c4b12c0012c0012c4b12c4a1284a0004a000011284a12800128001284a<<<7640+zz83<<<7980+0xc0301384d13800134001344e134020a44c1304c1304c<<<8040+zz83<<<8220+0x5113c510004f0004f1444f0a4501405014050<<<8280+zz82<<<8430+zz107<<<8490+0x300c0300c0000004b12c4b12c4b<<<8560+zz83<<<8670+0xc03015454154001500015055150020a45314c5314c53<<<8730+zz83<<<8910+0x58158580005600056160560a45715c5715c57<<<8970+zz82<<<9120+zz107<<<9180+0x300c0300c0000004b12c4b12c4b<<<9250+zz83<<<9360+0xc0301705b1700016c0016c5c16c020a45a1685a1685a<<<9420+zz83<<<9600+0x5f1745f0005d0005d17c5d0a45e1785e1785e<<<9660+zz82<<<9810+zz107<<<9870+0xc0300c0300c03000401000640b82e0602e0b8000b8000b8001884b<<<9940+zz79<<<10170+0x3900039000390000019c00000000006719c00194650bc65194001940019465194000bc000042f0bc0100802<<<10290+0x691a4681a06800068000011a0681a0001a0001a068<<<10730+zz130<<<10900+0x1b06b1b0001ac001ac6c1ac020e46a1a86a1a86a<<<11130+zz131<<<11290+0x6619866000660006f1b46f0006d0006d1bc6d0e46e1b86e1b86e<<<11370+zz130<<<11590+0x1cc721cc001c8001c8731c8020e4711c4711c471<<<11820+zz131<<<11980+0x661986600066000761d07600074000741d8740e4751d4751d475<<<12060+zz130<<<12280+0x1e8791e8001e4001e47a1e4020e4781e0781e078<<<12510+zz131<<<12670+0x6619866000660007d1ec7d0007b0007b1f47b0e47c1f07c1f07c<<<12750+zz130<<<12970+0x20480204002000020081200020e47f1fc7f1fc7f<<<13200+zz131<<<13360+0x21c691a469000690006900066198660006600084208840008200082210820e48320c8320c83<<<13440+zz110<<<13740+0x400004000040<<<13940+0x892248822088000880000122088220002200022088<<<14080+zz132<<<14250+0x2308b2300022c0022c8c22c021008a2288a2288a<<<14480+zz133<<<14640+0x6619866000660008f2348f0008d0008d23c8d1008e2388e2388e<<<14720+zz132<<<14940+0x24c9224c00248002489324802100912449124491<<<15170+zz133<<<15330+0x6619866000660009625096000940009425894100952549525495<<<15410+zz132<<<15630+0x2689926800264002649a26402100982609826098<<<15860+zz133<<<16020+0x6619866000660009d26c9d0009b0009b2749b1009c2709c2709c<<<16100+zz132<<<16320+0x284a02840028000280a1280021009f27c9f27c9f<<<16550+zz133<<<16710+0x29c89224890008900089000661986600066000a4288a4000a2000a2290a2100a328ca328ca3<<<16790+zz110<<<17090+0x470004700047<<<17290+0xa92a4a82a0a8000a8000012a0a82a0002a0002a0a8<<<17430+zz134<<<17600+0x2b0ab2b0002ac002acac2ac0211caa2a8aa2a8aa<<<17830+zz135<<<17990+0x661986600066000af2b4af000ad000ad2bcad11cae2b8ae2b8ae<<<18070+zz134<<<18290+0x2ccb22cc002c8002c8b32c80211cb12c4b12c4b1<<<18520+zz135<<<18680+0x661986600066000b62d0b6000b4000b42d8b411cb52d4b52d4b5<<<18760+zz134<<<18980+0x2e8b92e8002e4002e4ba2e40211cb82e0b82e0b8<<<19210+zz135<<<19370+0x661986600066000bd2ecbd000bb000bb2f4bb11cbc2f0bc2f0bc<<<19450+zz134<<<19670+0x304c03040030000300c13000211cbf2fcbf2fcbf<<<19900+zz135<<<20060+0x31ca92a4a9000a9000a9000661986600066000c4308c4000c2000c2310c211cc330cc330cc3<<<20140+zz110<<<20440+0x520005200052<<<20640+0xc9324c8320c8000c800001320c83200032000320c8<<<20780+zz136<<<20950+0x330cb3300032c0032ccc32c02148ca328ca328ca<<<21180+zz137<<<21340+0x661986600066000cf334cf000cd000cd33ccd148ce338ce338ce<<<21420+zz136<<<21640+0x34cd234c0034800348d334802148d1344d1344d1<<<21870+zz137<<<22030+0x661986600066000d6350d6000d4000d4358d4148d5354d5354d5<<<22110+zz136<<<22330+0x368d93680036400364da36402148d8360d8360d8<<<22560+zz137<<<22720+0x661986600066000dd36cdd000db000db374db148dc370dc370dc<<<22800+zz136<<<23020+0x384e03840038000380e138002148df37cdf37cdf<<<23250+zz137<<<23410+0x39cc9324c9000c9000c9000661986600066000e4388e4000e2000e2390e2148e338ce338ce3<<<23490+zz110<<<23790+0x590005900059<<<23990+0xe93a4e83a0e8000e8000013a0e83a0003a0003a0e8<<<24130+zz138<<<24300+0x3b0eb3b0003ac003acec3ac02164ea3a8ea3a8ea<<<24530+zz139<<<24690+0x661986600066000ef3b4ef000ed000ed3bced164ee3b8ee3b8ee<<<24770+zz138<<<24990+0x3ccf23cc003c8003c8f33c802164f13c4f13c4f1<<<25220+zz139<<<25380+0x661986600066000f63d0f6000f4000f43d8f4164f53d4f53d4f5<<<25460+zz138<<<25680+0x3e8f93e8003e4003e4fa3e402164f83e0f83e0f8<<<25910+zz139<<<26070+0x661986600066000fd3ecfd000fb000fb3f4fb164fc3f0fc3f0fc<<<26150+zz138<<<26370+0x4050040400400004010140002164ff3fcff3fcff<<<26600+zz139<<<26760+0x41ce93a4e9000e9000e900066198660006600104409040010200102411021650340d0340d03<<<26840+zz110<<<27140+0x600006000060<<<27340+0x1094250842108001080000142108420004200042108<<<27480+zz140<<<27650+0x4310b4300042c0042d0c42c021810a4290a4290a<<<27880+zz141<<<28040+0x6619866000660010f4350f0010d0010d43d0d1810e4390e4390e<<<28120+zz140<<<28340+0x44d1244c00448004491344802181114451144511<<<28570+zz141<<<28730+0x6619866000660011645116001140011445914181154551545515<<<28810+zz140<<<29030+0x4691946800464004651a46402181184611846118<<<29260+zz141<<<29420+0x6619866000660011d46d1d0011b0011b4751b1811c4711c4711c<<<29500+zz140<<<29720+0x48520484004800048121480021811f47d1f47d1f<<<29950+zz141<<<30110+0x18000180019c6719c6719c670040100129194650bc6519400194001940049d0942509001090010900066198660006600124489240012200122491221812348d2348d23<<<30190+zz1<<<30740+0x10012b<<<30770)
theorem orders_run (w:World) (base tk gb:Nat) (p:Pos) (b:List Stmt) (lenv:PySem.Env) (p1 p2:Pos) (g:Gh) :
    isRet ((sg w (outLaw b lenv p1 p2) (101 :: permOffs.map (·.1)) {} [] g base tk gb (.call (.ref 220) ⟨[],[]⟩) p).run 4800 N_orders) (.ok (.ret (.ref (base+101)))) (((base+101,ordersO base) :: ordersL base tk).map some) []:=by
  kernel_rfl
theorem orders_ok {w:World} {s:Shared} {p:Pos} {O:List Frame} {b:List Stmt} {lenv:PySem.Env} {p1 p2:Pos} (old:Old w s) (bare:Bare s) (hO:OutIs O (outLaw b lenv p1 p2)) :
    ∃ s',EndsAt (model pw w) s (.call (.ref 220) ⟨[],[]⟩) p O s' (.ok (.ret (.ref (s.heap.objs.size+101))))∧Kept s s' []∧AllAt s' ((s.heap.objs.size+101,ordersO s.heap.objs.size) :: ordersL s.heap.objs.size s.toks):=
  seg_ret (L:=[]) ⟨fun _ h=>(nomatch h),List.nodup_nil,fun _ h=>(nomatch h),old,bare⟩ hO (by decide) no_alts (orders_run w _ _ _ p b lenv p1 p2 _) no_cond
end Mine
end
section
open PySem PySem.W PySem.W.X PySem.Calls PyProof.Rows PySem.SeqAt
namespace Mine
structure OP where
  e:PySem.Expr
  gs:List Comprehension
  sc:Scope
  ps:Pos
  it:Value
  acc:Value
  env:PySem.Env
  lenv:PySem.Env
  b:List Stmt
  p1:Pos
  p2:Pos
  p3:Pos
noncomputable abbrev OP.out (o:OP):Stk:=outComp o.e o.gs o.sc o.ps o.it o.acc o.env o.lenv o.b o.p1 o.p2 o.p3
structure RP where
  aO:Addr
  aN:Addr
  aT:Addr
  aW:Addr
  aD:Addr
  tq:Nat
  t0:Nat
  t1:Nat
  t2:Nat
  t3:Nat
  eN:Nat
  x:Nat→Int
  u:Nat→Nat
  eT:Nat
  k0:Nat
  k1:Nat
  eD:Nat
noncomputable def RP.led (P:RP) (w:Params) (q:List Nat) (eW:Nat):Led:=
  [(P.aO,ordO P.tq q),(P.aN,namesO P.t0 P.t1 P.t2 P.t3 P.eN),(P.aT,intsO [(P.x 0,P.u 0),(P.x 1,P.u 1),(P.x 2,P.u 2),(P.x 3,P.u 3)] P.eT),(P.aW,accO P.aD [] eW),(P.aD,sizeO w 0 P.k0 P.k1 P.eD)]
noncomputable def RP.code (P:RP):Code:= .call (.ref 230) ⟨[.ref P.aO, .ref P.aN, .ref P.aT, .ref P.aW],[]⟩
structure X where
  v:Int
  q:Nat
  b:Nat
  k:Nat
  g:Nat
noncomputable def X.eff (c:X):Eff:=⟨.ok (.ret (.int c.v c.q)),[],[],c.b,c.k,c.g⟩
noncomputable def x0:X:=⟨0,0,0,0,0⟩
noncomputable def RP.ring (P:RP) (l:List Nat):List (Int × Nat):=l.map fun i=>(P.x i,P.u i)
theorem ok_ring {w:World} {ol:Stk} {ids:List Nat} {g:Gh} {r:Ora} {Q:Result ⊕ Code→Shared→Prop} {o:Out} {xs:List (Int × Nat)} {n:Nat} (h0:isCut o (.call (.builtin "sum") ⟨[.ref (o.ca 0)],[]⟩) [some (o.ca 0,intsO xs n)] [])
    (h1 : ∀ c:X,isCut (o.rest c.eff) (.call (.builtin "max") ⟨[.int 0 ((o.rest c.eff).ct 0), .int c.v c.q],[]⟩) [] [])
    (hn : ∀ c c2:X,c2.v=max 0 (xs.map (·.1)).sum→OutOk (Vk w ol ids g r) Q ((o.rest c.eff).rest c2.eff)):OutOk (Vk w ol ids g r) Q o:=
by
  generalize hS:(xs.map (·.1)).sum=S at hn
  refine ok_pcut (R:=fun r => ∃ t,r = .ok (.ret (.int S t))) h0 no_cond
    (fun s p O base off tk P _ hO => ?_) (fun r b k g ht => ?_)
  · have hg:s.heap.get? (o.ca 0)=some (listO (xs.map fun y=>Value.int y.1 y.2) n):=pst_at (F:=[(o.ca 0,intsO xs n)]) P _ (.head _)
    obtain ⟨t,s',hE,hK⟩:=call_sum (w:=w) hO hg (intsAre_intsO xs)
    rw [hS] at hE
    exact ⟨_,s',hE,hK,t,rfl⟩
  · obtain ⟨t,rfl⟩:=ht
    have h1' :=h1 ⟨S,t,b,k,g⟩
    refine ok_pcut (R:=fun r => ∃ t',r = .ok (.ret (.int (max 0 S) t'))) h1' no_cond (fun s p O base off tk P _ hO => ?_) (fun r b k g ht => ?_)
    · obtain ⟨q,s',hE,hK⟩:=call_max (w:=w) hO (s:=s) (a:=0) (b:=S) (t:=_) (u:=t)
      exact ⟨_,s',hE,hK,q,rfl⟩
    · obtain ⟨t',rfl⟩:=ht
      exact hn ⟨_,_,_,_,_⟩ ⟨_,t',b,k,g⟩ rfl
noncomputable def RP.run (P:RP) (w:World) (q:List Nat) (eW:Nat) (o:OP) (g:Gh) (base tk gb:Nat) (p:Pos) (N:Nat):Out:=
  (sg w o.out [0,1,2,3,4] {exs:=exs1} (P.led w.params q eW) g base tk gb P.code p).run 2700 N
noncomputable def ringTab:List (List Nat × List (List Nat)):=[
  ([3,2,1,0],[[2,1],[3,0]]),
  ([2,3,1,0],[[2,1,3,0]]),
  ([2,1,3,0],[[1],[2,3,0]]),
  ([2,1,0,3],[[3],[1],[2,0]]),
  ([3,1,2,0],[[2],[1],[3,0]]),
  ([1,3,2,0],[[2],[1,3,0]]),
  ([1,2,3,0],[[1,2,3,0]]),
  ([1,2,0,3],[[3],[1,2,0]]),
  ([3,1,0,2],[[1],[3,2,0]]),
  ([1,3,0,2],[[1,3,2,0]]),
  ([1,0,3,2],[[3,2],[1,0]]),
  ([1,0,2,3],[[3],[2],[1,0]]),
  ([3,2,0,1],[[3,1,2,0]]),
  ([2,3,0,1],[[3,1],[2,0]]),
  ([2,0,3,1],[[2,3,1,0]]),
  ([2,0,1,3],[[3],[2,1,0]]),
  ([3,0,2,1],[[2],[3,1,0]]),
  ([0,3,2,1],[[2],[3,1],[0]]),
  ([0,2,3,1],[[2,3,1],[0]]),
  ([0,2,1,3],[[3],[2,1],[0]]),
  ([3,0,1,2],[[3,2,1,0]]),
  ([0,3,1,2],[[3,2,1],[0]]),
  ([0,1,3,2],[[3,2],[1],[0]]),
  ([0,1,2,3],[[3],[2],[1],[0]])
]
noncomputable def ringVal (rs:List (List Nat)) (x:Nat→Int):Int:=(rs.map fun c=>max 0 ((c.map x).sum)).foldl (· + ·) 0
noncomputable def RingOk (w:World) (x:List Nat × List (List Nat)):Prop:= ∀ {P:RP} {s:Shared} {eW:Nat} {o:OP} {p:Pos} {O:List Frame},Ready w s (P.led w.params x.1 eW)→OutIs O o.out →
    ∃ r s' eW',EndsAt (model pw w) s P.code p O s' r∧(∃ t,r = .ok (.ret (.int (ringVal x.2 P.x) t)))∧Kept s s' (P.led w.params x.1 eW).as∧AllAt s' (P.led w.params x.1 eW')
noncomputable def RingP (P:RP) (w:World) (q:List Nat) (e' : Nat):List (List Nat)→Int→Nat→Out→Prop
  | [],a,k,o=>isRet o (.ok (.ret (.int a k))) ((P.led w.params q e').map some) []
  | l :: ls,a,_,o=>isCut o (.call (.builtin "sum") ⟨[.ref (o.ca 0)],[]⟩) [some (o.ca 0,intsO (P.ring l) l.length)] [] ∧
    ∀ c:X,isCut (o.rest c.eff) (.call (.builtin "max") ⟨[.int 0 ((o.rest c.eff).ct 0), .int c.v c.q],[]⟩) [] [] ∧ ∀ c2:X,RingP P w q e' ls (a+c2.v) c2.k ((o.rest c.eff).rest c2.eff)
theorem ringP_nil {P:RP} {w:World} {q:List Nat} {e' : Nat} {a:Int} {k:Nat} {o:Out} (h:isRet o (.ok (.ret (.int a k))) ((P.led w.params q e').map some) []):RingP P w q e' [] a k o:=h
noncomputable def addR (x:Nat→Int) (cs:List (List Nat)) (a:Int):Int:=(cs.map fun c=>max 0 ((c.map x).sum)).foldl (· + ·) a
theorem ringP_ok {P:RP} {w:World} {q:List Nat} {e' : Nat} {ol:Stk} {ids:List Nat} {g:Gh} {r:Ora} {Q:Result ⊕ Code→Shared→Prop} : ∀ (cs:List (List Nat)) (a:Int) (k:Nat) (o:Out),RingP P w q e' cs a k o →
    (∀ t s base off tk gb,Pst (Vk w ol ids g r) s ids ((P.led w.params q e').map some) base off tk gb→Bare s→Q (.inl (.ok (.ret (.int (addR P.x cs a) t)))) s)→OutOk (Vk w ol ids g r) Q o
  | [],a,k,o,h,hq=>ok_ret h no_cond fun s base off tk gb Ps hb=>hq k s base off tk gb Ps hb
  | l :: ls,a,k,o,h,hq=>ok_ring h.1 (fun c=>(h.2 c).1) fun c c2 hv=>ringP_ok ls _ _ _ ((h.2 c).2 c2) fun t s base off tk gb Ps hb=>by
    have e:((P.ring l).map (·.1)).sum=(l.map P.x).sum:=by rw [RP.ring,List.map_map]; rfl
    have z:=hq t s base off tk gb Ps hb
    rw [e] at hv
    rw [hv]
    exact z
theorem ring_of {w:World} {q:List Nat} {cs:List (List Nat)} (N:Nat) (F : ∀ (P:RP) (eW:Nat) (o:OP) (g:Gh) (base tk gb:Nat) (p:Pos),RingP P w q (eW+(4+cs.length)) cs 0 0 (P.run w q eW o g base tk gb p N)):RingOk w (q,cs):=fun {P s eW o p O} R hO=>by
  obtain ⟨r,s',h1,h2,h3,h4⟩:=seg_ok (P:=fun r s' => (∃ t,r = .ok (.ret (.int (ringVal cs P.x) t)))∧Kept s s' (P.led w.params q eW).as∧AllAt s' (P.led w.params q (eW+(4+cs.length)))) (p:=p) (N:=N) R hO (by decide) no_alts
    (ringP_ok cs 0 0 _ (F P eW o _ _ _ _ p) fun t s' _ _ _ gb Ps hb=>⟨⟨t,rfl⟩,kept_of R.starts Ps hb,all_of Ps⟩)
  exact ⟨r,s',_,h1,h2,h3,h4⟩
noncomputable def N_ring0:Nat:=(zz51+zz105<<<2550+zz26<<<4090+zz114<<<4800+zz39<<<5730+0x44050041107411<<<7690+zz101<<<7750+zz37<<<8010+zz40<<<8070+zz71<<<8150+zz71<<<8250+17<<<8350+zz102<<<8360+0x4c000041304c13<<<8810+zz72<<<8870+zz73<<<8950+zz73<<<9050+19<<<9150+zz103<<<9160+zz12<<<9520+40<<<9600+zz33<<<9610+zz34<<<9750+0xa42900000000290a4000a429<<<10340+zz15<<<10440+0x290a4290a4000102a0a82a0a82a<<<10580+zz16<<<10690+0xa42d<<<10800+zz1<<<10830+0x2b0002b0002b0ac2b<<<10860+zz41<<<10930+46<<<11140+zz35<<<11150+46<<<11190+zz18<<<11200+0x2f0bc2f0002b000010ac2b<<<11270+zz10<<<11360+0xbc2f0bc2b<<<11410+zz36<<<11450+0xc832<<<11520+zz21<<<11540+zz115<<<11590+zz115<<<11690+0xd0320c80d<<<11790+zz104<<<11830+0xbc2f0bc2b<<<12210+zz44<<<12250+zz98<<<12310+zz116<<<12390+zz116<<<12490+0xdc350d40f<<<12590+zz104<<<12630+0x620c4310c4310c4310e42f0bc2b<<<13010+zz70<<<13120)
theorem ring_ok0 {w:World}:RingOk w ([3,2,1,0],[[2,1],[3,0]]):=ring_of (q:=[3,2,1,0]) (cs:=[[2,1],[3,0]]) N_ring0 fun P eW o g base tk gb p=>⟨by kernel_rfl,fun c2=>⟨by kernel_rfl,fun d2=>⟨by kernel_rfl,fun c1=>⟨by kernel_rfl,fun d1=>ringP_nil (by kernel_rfl)⟩⟩⟩⟩
noncomputable def N_ring1:Nat:=(zz113+zz26<<<3550+zz114<<<4260+0x24010240901806<<<5190+zz3<<<5280+0x9004090240601806018000000b02c01<<<5340+zz3<<<5500+0x2800028000280000006000000000001806000000540b02c01<<<5560+0x5816<<<5820+zz14<<<5850+1046<<<5890+zz14<<<5920+0x5c16<<<5960+zz34<<<5980+0x601800000000180600006018<<<6570+zz15<<<6670+0x180601806000010190641906419<<<6810+zz16<<<6920+0x601c<<<7030+zz1<<<7060+0x1a0001a0001a0681a<<<7090+zz17<<<7160+0x740d<<<7360+zz35<<<7380+zz101<<<7420+zz36<<<7680+0x3421084000840008421<<<7750+zz19<<<7830+13<<<7920+zz19<<<7930+13<<<8020+zz102<<<8030+zz44<<<8480+zz72<<<8540+15<<<8620+zz42<<<8630+15<<<8720+zz42<<<8730+15<<<8820+zz103<<<8830+zz12<<<9190+30<<<9270+zz37<<<9280+0x442709c0009c0009c27<<<9350+zz117<<<9430+17<<<9520+zz117<<<9530+0xa42709c11<<<9620+zz24<<<9660+zz12<<<9990+0x2c0a82a04c2a0a8000a8000a8000a82a04c2a0a8000a8000a8000a82a04c2a0a8000a8000a82a000130000104c1304c1e<<<10070+zz24<<<10460+zz12<<<10790+46<<<10870+zz33<<<10880+0x18000c01705c170001700017<<<11030)
theorem ring_ok1 {w:World}:RingOk w ([2,3,1,0],[[2,1,3,0]]):=ring_of (q:=[2,3,1,0]) (cs:=[[2,1,3,0]]) N_ring1 fun P eW o g base tk gb p=>⟨by kernel_rfl,fun c1=>⟨by kernel_rfl,fun d1=>ringP_nil (by kernel_rfl)⟩⟩
noncomputable def N_ring2:Nat:=(zz113+zz30<<<3550+zz114<<<4800+zz52<<<5730+zz34<<<8950+0x982600000000260980009826<<<9540+zz15<<<9640+0x2609826098000102709c2709c27<<<9780+zz16<<<9890+0x982a<<<10000+zz1<<<10030+0x2800028000280a028<<<10060+zz41<<<10130+43<<<10340+zz35<<<10350+zz53<<<10390+zz36<<<10650+0xbc2f<<<10720+zz10<<<10740+zz68<<<10790+zz68<<<10890+13<<<10990+zz96<<<11000+zz44<<<11450+0xc832<<<11520+zz21<<<11540+0x32000320c80f<<<11590+zz21<<<11640+0x32000320c80f<<<11690+zz21<<<11740+15<<<11790+zz97<<<11800+zz20<<<12160+44<<<12240+zz37<<<12250+zz98<<<12310+zz69<<<12390+zz69<<<12490+0xdc350d411<<<12590+zz29<<<12630+zz20<<<12960+0x1702e0b82e0b82e0b839<<<13040+zz70<<<13120)
theorem ring_ok2 {w:World}:RingOk w ([2,1,3,0],[[1],[2,3,0]]):=ring_of (q:=[2,1,3,0]) (cs:=[[1],[2,3,0]]) N_ring2 fun P eW o g base tk gb p=>⟨by kernel_rfl,fun c2=>⟨by kernel_rfl,fun d2=>⟨by kernel_rfl,fun c1=>⟨by kernel_rfl,fun d1=>ringP_nil (by kernel_rfl)⟩⟩⟩⟩
noncomputable def N_ring3:Nat:=(zz51+zz105<<<2550+zz99<<<4090+zz118<<<5560+0x4405004110ac11<<<10660+zz53<<<10720+zz37<<<10980+0xbc2f<<<11050+zz10<<<11070+0x2f0002f0bc11<<<11120+zz10<<<11170+0x2f0002f0bc11<<<11220+zz10<<<11270+0xc42f0bc11<<<11320+zz29<<<11360+zz20<<<11690+51<<<11770+zz111<<<11780+0xd03400000000340d0000d034<<<12510+zz15<<<12610+0x340d0340d000010350d4350d435<<<12750+zz16<<<12860+0xd038<<<12970+zz1<<<13000+0x3600036000360d836<<<13030+zz41<<<13100+57<<<13310+zz35<<<13320+zz119<<<13360+zz36<<<13620+zz86<<<13690+zz87<<<13760+zz87<<<13860+0x3d0f40d<<<13960+zz120<<<13990+0xf0000103c0f03c3a0e83a0d83a<<<14370+zz88<<<14490+zz89<<<14560+zz89<<<14660+0xf03c0003c0f000108401000f<<<14760+zz6<<<14860+60<<<14920+zz7<<<14930+0x780f03c0f03c0f03c1103a0e8360e83a0003a0003a0003b0ec3b0003b<<<15060+zz90<<<15290)
theorem ring_ok3 {w:World}:RingOk w ([2,1,0,3],[[3],[1],[2,0]]):=ring_of (q:=[2,1,0,3]) (cs:=[[3],[1],[2,0]]) N_ring3 fun P eW o g base tk gb p=>⟨by kernel_rfl,fun c3=>⟨by kernel_rfl,fun d3=>⟨by kernel_rfl,fun c2=>⟨by kernel_rfl,fun d2=>⟨by kernel_rfl,fun c1=>⟨by kernel_rfl,fun d1=>ringP_nil (by kernel_rfl)⟩⟩⟩⟩⟩⟩
noncomputable def N_ring4:Nat:=(zz51+zz105<<<2550+zz30<<<4090+zz100<<<5340+zz52<<<6050+zz27<<<9270+0x982600000000260980009826<<<9870+zz15<<<9970+0x2609826098000102709c2709c27<<<10110+zz16<<<10220+0x982a<<<10330+zz1<<<10360+0x2800028000280a028<<<10390+zz17<<<10460+0x4405004110ac11<<<10660+zz53<<<10720+zz37<<<10980+0xbc2f<<<11050+zz10<<<11070+0x2f0002f0bc11<<<11120+zz10<<<11170+0x2f0002f0bc11<<<11220+zz10<<<11270+0xc42f0bc11<<<11320+zz29<<<11360+zz20<<<11690+51<<<11770+zz111<<<11780+0xd03400000000340d0000d034<<<12510+zz15<<<12610+0x340d0340d000010350d4350d435<<<12750+zz16<<<12860+0xd038<<<12970+zz1<<<13000+0x3600036000360d836<<<13030+zz41<<<13100+57<<<13310+zz35<<<13320+zz119<<<13360+zz36<<<13620+zz86<<<13690+zz87<<<13760+zz87<<<13860+0x3d0f40d<<<13960+zz120<<<13990+0xf0000103c0f03c3a0e83a0d83a<<<14370+zz88<<<14490+zz89<<<14560+zz89<<<14660+0xf03c0003c0f000108401000f<<<14760+zz6<<<14860+60<<<14920+zz7<<<14930+0x780f03c0f03c0f03c1103a0e8360e83a0003a0003a0003b0ec3b0003b<<<15060+zz90<<<15290)
theorem ring_ok4 {w:World}:RingOk w ([3,1,2,0],[[2],[1],[3,0]]):=ring_of (q:=[3,1,2,0]) (cs:=[[2],[1],[3,0]]) N_ring4 fun P eW o g base tk gb p=>⟨by kernel_rfl,fun c3=>⟨by kernel_rfl,fun d3=>⟨by kernel_rfl,fun c2=>⟨by kernel_rfl,fun d2=>⟨by kernel_rfl,fun c1=>⟨by kernel_rfl,fun d1=>ringP_nil (by kernel_rfl)⟩⟩⟩⟩⟩⟩
noncomputable def N_ring5:Nat:=(zz113+zz99<<<3550+zz100<<<5020+zz52<<<5730+zz34<<<8950+0x982600000000260980009826<<<9540+zz15<<<9640+0x2609826098000102709c2709c27<<<9780+zz16<<<9890+0x982a<<<10000+zz1<<<10030+0x2800028000280a028<<<10060+zz41<<<10130+43<<<10340+zz35<<<10350+zz53<<<10390+zz36<<<10650+0xbc2f<<<10720+zz10<<<10740+zz68<<<10790+zz68<<<10890+13<<<10990+zz96<<<11000+zz44<<<11450+0xc832<<<11520+zz21<<<11540+0x32000320c80f<<<11590+zz21<<<11640+0x32000320c80f<<<11690+zz21<<<11740+15<<<11790+zz97<<<11800+zz20<<<12160+44<<<12240+zz37<<<12250+zz98<<<12310+zz69<<<12390+zz69<<<12490+0xdc350d411<<<12590+zz29<<<12630+zz20<<<12960+0x1702e0b82e0b82e0b839<<<13040+zz70<<<13120)
theorem ring_ok5 {w:World}:RingOk w ([1,3,2,0],[[2],[1,3,0]]):=ring_of (q:=[1,3,2,0]) (cs:=[[2],[1,3,0]]) N_ring5 fun P eW o g base tk gb p=>⟨by kernel_rfl,fun c2=>⟨by kernel_rfl,fun d2=>⟨by kernel_rfl,fun c1=>⟨by kernel_rfl,fun d1=>ringP_nil (by kernel_rfl)⟩⟩⟩⟩
noncomputable def N_ring6:Nat:=(zz113+zz26<<<3550+zz114<<<4260+0x24010240901806<<<5190+zz3<<<5280+0x9004090240601806018000000b02c01<<<5340+zz3<<<5500+0x2800028000280000006000000000001806000000540b02c01<<<5560+0x5816<<<5820+zz14<<<5850+1046<<<5890+zz14<<<5920+0x5c16<<<5960+zz34<<<5980+0x601800000000180600006018<<<6570+zz15<<<6670+0x180601806000010190641906419<<<6810+zz16<<<6920+0x601c<<<7030+zz1<<<7060+0x1a0001a0001a0681a<<<7090+zz17<<<7160+0x740d<<<7360+zz35<<<7380+zz101<<<7420+zz36<<<7680+0x3421084000840008421<<<7750+zz19<<<7830+13<<<7920+zz19<<<7930+13<<<8020+zz102<<<8030+zz44<<<8480+zz72<<<8540+15<<<8620+zz42<<<8630+15<<<8720+zz42<<<8730+15<<<8820+zz103<<<8830+zz12<<<9190+30<<<9270+zz37<<<9280+0x442709c0009c0009c27<<<9350+zz117<<<9430+17<<<9520+zz117<<<9530+0xa42709c11<<<9620+zz24<<<9660+zz12<<<9990+0x2c0a82a04c2a0a8000a8000a8000a82a04c2a0a8000a8000a8000a82a04c2a0a8000a8000a82a000130000104c1304c1e<<<10070+zz24<<<10460+zz12<<<10790+46<<<10870+zz33<<<10880+0x18000c01705c170001700017<<<11030)
theorem ring_ok6 {w:World}:RingOk w ([1,2,3,0],[[1,2,3,0]]):=ring_of (q:=[1,2,3,0]) (cs:=[[1,2,3,0]]) N_ring6 fun P eW o g base tk gb p=>⟨by kernel_rfl,fun c1=>⟨by kernel_rfl,fun d1=>ringP_nil (by kernel_rfl)⟩⟩
noncomputable def N_ring7:Nat:=(zz113+0x40101806010040100000004<<<3550+zz0<<<3650+0x24010240901806000060180000001<<<3690+zz3<<<3840+0x9004090240601806018000000b02c01<<<3900+zz3<<<4060+0x9004090240601806018000000b02c01<<<4120+zz3<<<4280+0x6018000000b02c01<<<4340+zz13<<<4410+zz95<<<5240+zz52<<<5730+zz34<<<8950+0x982600000000260980009826<<<9540+zz15<<<9640+0x2609826098000102709c2709c27<<<9780+zz16<<<9890+0x982a<<<10000+zz1<<<10030+0x2800028000280a028<<<10060+zz41<<<10130+43<<<10340+zz35<<<10350+zz53<<<10390+zz36<<<10650+0xbc2f<<<10720+zz10<<<10740+zz68<<<10790+zz68<<<10890+13<<<10990+zz96<<<11000+zz44<<<11450+0xc832<<<11520+zz21<<<11540+0x32000320c80f<<<11590+zz21<<<11640+0x32000320c80f<<<11690+zz21<<<11740+15<<<11790+zz97<<<11800+zz20<<<12160+44<<<12240+zz37<<<12250+zz98<<<12310+zz69<<<12390+zz69<<<12490+0xdc350d411<<<12590+zz29<<<12630+zz20<<<12960+0x1702e0b82e0b82e0b839<<<13040+zz70<<<13120)
theorem ring_ok7 {w:World}:RingOk w ([1,2,0,3],[[3],[1,2,0]]):=ring_of (q:=[1,2,0,3]) (cs:=[[3],[1,2,0]]) N_ring7 fun P eW o g base tk gb p=>⟨by kernel_rfl,fun c2=>⟨by kernel_rfl,fun d2=>⟨by kernel_rfl,fun c1=>⟨by kernel_rfl,fun d1=>ringP_nil (by kernel_rfl)⟩⟩⟩⟩
noncomputable def N_ring8:Nat:=(zz113+zz30<<<3550+zz114<<<4800+zz52<<<5730+zz34<<<8950+0x982600000000260980009826<<<9540+zz15<<<9640+0x2609826098000102709c2709c27<<<9780+zz16<<<9890+0x982a<<<10000+zz1<<<10030+0x2800028000280a028<<<10060+zz41<<<10130+43<<<10340+zz35<<<10350+zz53<<<10390+zz36<<<10650+0xbc2f<<<10720+zz10<<<10740+zz68<<<10790+zz68<<<10890+13<<<10990+zz96<<<11000+zz44<<<11450+0xc832<<<11520+zz21<<<11540+0x32000320c80f<<<11590+zz21<<<11640+0x32000320c80f<<<11690+zz21<<<11740+15<<<11790+zz97<<<11800+zz20<<<12160+44<<<12240+zz37<<<12250+zz98<<<12310+zz69<<<12390+zz69<<<12490+0xdc350d411<<<12590+zz29<<<12630+zz20<<<12960+0x1702e0b82e0b82e0b839<<<13040+zz70<<<13120)
theorem ring_ok8 {w:World}:RingOk w ([3,1,0,2],[[1],[3,2,0]]):=ring_of (q:=[3,1,0,2]) (cs:=[[1],[3,2,0]]) N_ring8 fun P eW o g base tk gb p=>⟨by kernel_rfl,fun c2=>⟨by kernel_rfl,fun d2=>⟨by kernel_rfl,fun c1=>⟨by kernel_rfl,fun d1=>ringP_nil (by kernel_rfl)⟩⟩⟩⟩
noncomputable def N_ring9:Nat:=(zz113+zz26<<<3550+zz114<<<4260+0x24010240901806<<<5190+zz3<<<5280+0x9004090240601806018000000b02c01<<<5340+zz3<<<5500+0x2800028000280000006000000000001806000000540b02c01<<<5560+0x5816<<<5820+zz14<<<5850+1046<<<5890+zz14<<<5920+0x5c16<<<5960+zz34<<<5980+0x601800000000180600006018<<<6570+zz15<<<6670+0x180601806000010190641906419<<<6810+zz16<<<6920+0x601c<<<7030+zz1<<<7060+0x1a0001a0001a0681a<<<7090+zz17<<<7160+0x740d<<<7360+zz35<<<7380+zz101<<<7420+zz36<<<7680+0x3421084000840008421<<<7750+zz19<<<7830+13<<<7920+zz19<<<7930+13<<<8020+zz102<<<8030+zz44<<<8480+zz72<<<8540+15<<<8620+zz42<<<8630+15<<<8720+zz42<<<8730+15<<<8820+zz103<<<8830+zz12<<<9190+30<<<9270+zz37<<<9280+0x442709c0009c0009c27<<<9350+zz117<<<9430+17<<<9520+zz117<<<9530+0xa42709c11<<<9620+zz24<<<9660+zz12<<<9990+0x2c0a82a04c2a0a8000a8000a8000a82a04c2a0a8000a8000a8000a82a04c2a0a8000a8000a82a000130000104c1304c1e<<<10070+zz24<<<10460+zz12<<<10790+46<<<10870+zz33<<<10880+0x18000c01705c170001700017<<<11030)
theorem ring_ok9 {w:World}:RingOk w ([1,3,0,2],[[1,3,2,0]]):=ring_of (q:=[1,3,0,2]) (cs:=[[1,3,2,0]]) N_ring9 fun P eW o g base tk gb p=>⟨by kernel_rfl,fun c1=>⟨by kernel_rfl,fun d1=>ringP_nil (by kernel_rfl)⟩⟩
noncomputable def N_ring10:Nat:=(zz51+zz99<<<2550+zz32<<<4020+zz26<<<4310+zz100<<<5020+zz39<<<5730+0x44050041107411<<<7690+zz101<<<7750+zz37<<<8010+zz40<<<8070+zz71<<<8150+zz71<<<8250+17<<<8350+zz102<<<8360+0x4c000041304c13<<<8810+zz72<<<8870+zz73<<<8950+zz73<<<9050+19<<<9150+zz103<<<9160+zz12<<<9520+40<<<9600+zz33<<<9610+zz34<<<9750+0xa42900000000290a4000a429<<<10340+zz15<<<10440+0x290a4290a4000102a0a82a0a82a<<<10580+zz16<<<10690+0xa42d<<<10800+zz1<<<10830+0x2b0002b0002b0ac2b<<<10860+zz41<<<10930+46<<<11140+zz35<<<11150+46<<<11190+zz18<<<11200+0x2f0bc2f0002b000010ac2b<<<11270+zz10<<<11360+0xbc2f0bc2b<<<11410+zz36<<<11450+0xc832<<<11520+zz21<<<11540+zz115<<<11590+zz115<<<11690+0xd0320c80d<<<11790+zz104<<<11830+0xbc2f0bc2b<<<12210+zz44<<<12250+zz98<<<12310+zz116<<<12390+zz116<<<12490+0xdc350d40f<<<12590+zz104<<<12630+0x620c4310c4310c4310e42f0bc2b<<<13010+zz70<<<13120)
theorem ring_ok10 {w:World}:RingOk w ([1,0,3,2],[[3,2],[1,0]]):=ring_of (q:=[1,0,3,2]) (cs:=[[3,2],[1,0]]) N_ring10 fun P eW o g base tk gb p=>⟨by kernel_rfl,fun c2=>⟨by kernel_rfl,fun d2=>⟨by kernel_rfl,fun c1=>⟨by kernel_rfl,fun d1=>ringP_nil (by kernel_rfl)⟩⟩⟩⟩
noncomputable def N_ring11:Nat:=(zz51+zz99<<<2550+zz32<<<4020+zz30<<<4310+zz118<<<5560+0x4405004110ac11<<<10660+zz53<<<10720+zz37<<<10980+0xbc2f<<<11050+zz10<<<11070+0x2f0002f0bc11<<<11120+zz10<<<11170+0x2f0002f0bc11<<<11220+zz10<<<11270+0xc42f0bc11<<<11320+zz29<<<11360+zz20<<<11690+51<<<11770+zz111<<<11780+0xd03400000000340d0000d034<<<12510+zz15<<<12610+0x340d0340d000010350d4350d435<<<12750+zz16<<<12860+0xd038<<<12970+zz1<<<13000+0x3600036000360d836<<<13030+zz41<<<13100+57<<<13310+zz35<<<13320+zz119<<<13360+zz36<<<13620+zz86<<<13690+zz87<<<13760+zz87<<<13860+0x3d0f40d<<<13960+zz120<<<13990+0xf0000103c0f03c3a0e83a0d83a<<<14370+zz88<<<14490+zz89<<<14560+zz89<<<14660+0xf03c0003c0f000108401000f<<<14760+zz6<<<14860+60<<<14920+zz7<<<14930+0x780f03c0f03c0f03c1103a0e8360e83a0003a0003a0003b0ec3b0003b<<<15060+zz90<<<15290)
theorem ring_ok11 {w:World}:RingOk w ([1,0,2,3],[[3],[2],[1,0]]):=ring_of (q:=[1,0,2,3]) (cs:=[[3],[2],[1,0]]) N_ring11 fun P eW o g base tk gb p=>⟨by kernel_rfl,fun c3=>⟨by kernel_rfl,fun d3=>⟨by kernel_rfl,fun c2=>⟨by kernel_rfl,fun d2=>⟨by kernel_rfl,fun c1=>⟨by kernel_rfl,fun d1=>ringP_nil (by kernel_rfl)⟩⟩⟩⟩⟩⟩
noncomputable def N_ring12:Nat:=(zz113+zz26<<<3550+zz114<<<4260+0x24010240901806<<<5190+zz3<<<5280+0x9004090240601806018000000b02c01<<<5340+zz3<<<5500+0x2800028000280000006000000000001806000000540b02c01<<<5560+0x5816<<<5820+zz14<<<5850+1046<<<5890+zz14<<<5920+0x5c16<<<5960+zz34<<<5980+0x601800000000180600006018<<<6570+zz15<<<6670+0x180601806000010190641906419<<<6810+zz16<<<6920+0x601c<<<7030+zz1<<<7060+0x1a0001a0001a0681a<<<7090+zz17<<<7160+0x740d<<<7360+zz35<<<7380+zz101<<<7420+zz36<<<7680+0x3421084000840008421<<<7750+zz19<<<7830+13<<<7920+zz19<<<7930+13<<<8020+zz102<<<8030+zz44<<<8480+zz72<<<8540+15<<<8620+zz42<<<8630+15<<<8720+zz42<<<8730+15<<<8820+zz103<<<8830+zz12<<<9190+30<<<9270+zz37<<<9280+0x442709c0009c0009c27<<<9350+zz117<<<9430+17<<<9520+zz117<<<9530+0xa42709c11<<<9620+zz24<<<9660+zz12<<<9990+0x2c0a82a04c2a0a8000a8000a8000a82a04c2a0a8000a8000a8000a82a04c2a0a8000a8000a82a000130000104c1304c1e<<<10070+zz24<<<10460+zz12<<<10790+46<<<10870+zz33<<<10880+0x18000c01705c170001700017<<<11030)
theorem ring_ok12 {w:World}:RingOk w ([3,2,0,1],[[3,1,2,0]]):=ring_of (q:=[3,2,0,1]) (cs:=[[3,1,2,0]]) N_ring12 fun P eW o g base tk gb p=>⟨by kernel_rfl,fun c1=>⟨by kernel_rfl,fun d1=>ringP_nil (by kernel_rfl)⟩⟩
noncomputable def N_ring13:Nat:=(zz51+zz105<<<2550+zz26<<<4090+zz114<<<4800+zz39<<<5730+0x44050041107411<<<7690+zz101<<<7750+zz37<<<8010+zz40<<<8070+zz71<<<8150+zz71<<<8250+17<<<8350+zz102<<<8360+0x4c000041304c13<<<8810+zz72<<<8870+zz73<<<8950+zz73<<<9050+19<<<9150+zz103<<<9160+zz12<<<9520+40<<<9600+zz33<<<9610+zz34<<<9750+0xa42900000000290a4000a429<<<10340+zz15<<<10440+0x290a4290a4000102a0a82a0a82a<<<10580+zz16<<<10690+0xa42d<<<10800+zz1<<<10830+0x2b0002b0002b0ac2b<<<10860+zz41<<<10930+46<<<11140+zz35<<<11150+46<<<11190+zz18<<<11200+0x2f0bc2f0002b000010ac2b<<<11270+zz10<<<11360+0xbc2f0bc2b<<<11410+zz36<<<11450+0xc832<<<11520+zz21<<<11540+zz115<<<11590+zz115<<<11690+0xd0320c80d<<<11790+zz104<<<11830+0xbc2f0bc2b<<<12210+zz44<<<12250+zz98<<<12310+zz116<<<12390+zz116<<<12490+0xdc350d40f<<<12590+zz104<<<12630+0x620c4310c4310c4310e42f0bc2b<<<13010+zz70<<<13120)
theorem ring_ok13 {w:World}:RingOk w ([2,3,0,1],[[3,1],[2,0]]):=ring_of (q:=[2,3,0,1]) (cs:=[[3,1],[2,0]]) N_ring13 fun P eW o g base tk gb p=>⟨by kernel_rfl,fun c2=>⟨by kernel_rfl,fun d2=>⟨by kernel_rfl,fun c1=>⟨by kernel_rfl,fun d1=>ringP_nil (by kernel_rfl)⟩⟩⟩⟩
noncomputable def N_ring14:Nat:=(zz113+zz26<<<3550+zz114<<<4260+0x24010240901806<<<5190+zz3<<<5280+0x9004090240601806018000000b02c01<<<5340+zz3<<<5500+0x2800028000280000006000000000001806000000540b02c01<<<5560+0x5816<<<5820+zz14<<<5850+1046<<<5890+zz14<<<5920+0x5c16<<<5960+zz34<<<5980+0x601800000000180600006018<<<6570+zz15<<<6670+0x180601806000010190641906419<<<6810+zz16<<<6920+0x601c<<<7030+zz1<<<7060+0x1a0001a0001a0681a<<<7090+zz17<<<7160+0x740d<<<7360+zz35<<<7380+zz101<<<7420+zz36<<<7680+0x3421084000840008421<<<7750+zz19<<<7830+13<<<7920+zz19<<<7930+13<<<8020+zz102<<<8030+zz44<<<8480+zz72<<<8540+15<<<8620+zz42<<<8630+15<<<8720+zz42<<<8730+15<<<8820+zz103<<<8830+zz12<<<9190+30<<<9270+zz37<<<9280+0x442709c0009c0009c27<<<9350+zz117<<<9430+17<<<9520+zz117<<<9530+0xa42709c11<<<9620+zz24<<<9660+zz12<<<9990+0x2c0a82a04c2a0a8000a8000a8000a82a04c2a0a8000a8000a8000a82a04c2a0a8000a8000a82a000130000104c1304c1e<<<10070+zz24<<<10460+zz12<<<10790+46<<<10870+zz33<<<10880+0x18000c01705c170001700017<<<11030)
theorem ring_ok14 {w:World}:RingOk w ([2,0,3,1],[[2,3,1,0]]):=ring_of (q:=[2,0,3,1]) (cs:=[[2,3,1,0]]) N_ring14 fun P eW o g base tk gb p=>⟨by kernel_rfl,fun c1=>⟨by kernel_rfl,fun d1=>ringP_nil (by kernel_rfl)⟩⟩
noncomputable def N_ring15:Nat:=(zz113+0x40101806010040100000004<<<3550+zz0<<<3650+0x24010240901806000060180000001<<<3690+zz3<<<3840+0x9004090240601806018000000b02c01<<<3900+zz3<<<4060+0x9004090240601806018000000b02c01<<<4120+zz3<<<4280+0x6018000000b02c01<<<4340+zz13<<<4410+zz95<<<5240+zz52<<<5730+zz34<<<8950+0x982600000000260980009826<<<9540+zz15<<<9640+0x2609826098000102709c2709c27<<<9780+zz16<<<9890+0x982a<<<10000+zz1<<<10030+0x2800028000280a028<<<10060+zz41<<<10130+43<<<10340+zz35<<<10350+zz53<<<10390+zz36<<<10650+0xbc2f<<<10720+zz10<<<10740+zz68<<<10790+zz68<<<10890+13<<<10990+zz96<<<11000+zz44<<<11450+0xc832<<<11520+zz21<<<11540+0x32000320c80f<<<11590+zz21<<<11640+0x32000320c80f<<<11690+zz21<<<11740+15<<<11790+zz97<<<11800+zz20<<<12160+44<<<12240+zz37<<<12250+zz98<<<12310+zz69<<<12390+zz69<<<12490+0xdc350d411<<<12590+zz29<<<12630+zz20<<<12960+0x1702e0b82e0b82e0b839<<<13040+zz70<<<13120)
theorem ring_ok15 {w:World}:RingOk w ([2,0,1,3],[[3],[2,1,0]]):=ring_of (q:=[2,0,1,3]) (cs:=[[3],[2,1,0]]) N_ring15 fun P eW o g base tk gb p=>⟨by kernel_rfl,fun c2=>⟨by kernel_rfl,fun d2=>⟨by kernel_rfl,fun c1=>⟨by kernel_rfl,fun d1=>ringP_nil (by kernel_rfl)⟩⟩⟩⟩
noncomputable def N_ring16:Nat:=(zz113+zz99<<<3550+zz100<<<5020+zz52<<<5730+zz34<<<8950+0x982600000000260980009826<<<9540+zz15<<<9640+0x2609826098000102709c2709c27<<<9780+zz16<<<9890+0x982a<<<10000+zz1<<<10030+0x2800028000280a028<<<10060+zz41<<<10130+43<<<10340+zz35<<<10350+zz53<<<10390+zz36<<<10650+0xbc2f<<<10720+zz10<<<10740+zz68<<<10790+zz68<<<10890+13<<<10990+zz96<<<11000+zz44<<<11450+0xc832<<<11520+zz21<<<11540+0x32000320c80f<<<11590+zz21<<<11640+0x32000320c80f<<<11690+zz21<<<11740+15<<<11790+zz97<<<11800+zz20<<<12160+44<<<12240+zz37<<<12250+zz98<<<12310+zz69<<<12390+zz69<<<12490+0xdc350d411<<<12590+zz29<<<12630+zz20<<<12960+0x1702e0b82e0b82e0b839<<<13040+zz70<<<13120)
theorem ring_ok16 {w:World}:RingOk w ([3,0,2,1],[[2],[3,1,0]]):=ring_of (q:=[3,0,2,1]) (cs:=[[2],[3,1,0]]) N_ring16 fun P eW o g base tk gb p=>⟨by kernel_rfl,fun c2=>⟨by kernel_rfl,fun d2=>⟨by kernel_rfl,fun c1=>⟨by kernel_rfl,fun d1=>ringP_nil (by kernel_rfl)⟩⟩⟩⟩
noncomputable def N_ring17:Nat:=(zz106+zz58<<<3090+zz30<<<4090+zz100<<<5340+zz52<<<6050+zz27<<<9270+0x982600000000260980009826<<<9870+zz15<<<9970+0x2609826098000102709c2709c27<<<10110+zz16<<<10220+0x982a<<<10330+zz1<<<10360+0x2800028000280a028<<<10390+zz17<<<10460+0x3c050040f0ac0f<<<10660+zz53<<<10720+zz44<<<10980+0xbc2f<<<11050+zz10<<<11070+zz145<<<11120+zz145<<<11220+15<<<11320+zz96<<<11330+zz37<<<11780+0xc832<<<11850+zz21<<<11870+zz146<<<11920+zz146<<<12020+17<<<12120+zz97<<<12130+zz20<<<12490+54<<<12570+zz111<<<12580+0xdc3700000000370dc000dc37<<<13310+zz15<<<13410+0x370dc370dc00010380e0380e038<<<13550+zz16<<<13660+0xdc3b<<<13770+zz1<<<13800+zz47<<<13830+57<<<13890+zz41<<<13900+60<<<14110+zz35<<<14120+60<<<14160+zz18<<<14170+0x3d00039000010e439<<<14240+zz86<<<14310+0xf43d0f439<<<14380+zz36<<<14420+zz88<<<14490+zz91<<<14560+zz91<<<14660+0xfc3f0003f0fc00108401000d<<<14760+zz6<<<14860+63<<<14920+zz7<<<14930+0x3e0f83e0003e<<<15060+zz45<<<15110+0x7e0fc3f0fc3f0fc3f1103d0f439<<<15180+zz90<<<15290)
theorem ring_ok17 {w:World}:RingOk w ([0,3,2,1],[[2],[3,1],[0]]):=ring_of (q:=[0,3,2,1]) (cs:=[[2],[3,1],[0]]) N_ring17 fun P eW o g base tk gb p=>⟨by kernel_rfl,fun c3=>⟨by kernel_rfl,fun d3=>⟨by kernel_rfl,fun c2=>⟨by kernel_rfl,fun d2=>⟨by kernel_rfl,fun c1=>⟨by kernel_rfl,fun d1=>ringP_nil (by kernel_rfl)⟩⟩⟩⟩⟩⟩
noncomputable def N_ring18:Nat:=(zz106+zz58<<<3090+zz26<<<4090+zz114<<<4800+zz39<<<5730+0x3c050040f0740f<<<7690+zz101<<<7750+zz44<<<8010+zz40<<<8070+15<<<8150+zz19<<<8160+15<<<8250+zz19<<<8260+15<<<8350+zz102<<<8360+zz37<<<8810+zz72<<<8870+17<<<8950+zz42<<<8960+17<<<9050+zz42<<<9060+17<<<9150+zz103<<<9160+zz12<<<9520+0x4c2709c0009c0009c27000130000104c1304c1e<<<9600+zz117<<<9760+19<<<9850+zz117<<<9860+0xa42709c13<<<9950+zz24<<<9990+zz12<<<10320+43<<<10400+zz33<<<10410+zz34<<<10550+0xb02c000000002c0b0000b02c<<<11140+zz15<<<11240+0x2c0b02c0b0000102d0b42d0b42d<<<11380+zz16<<<11490+0xb030<<<11600+zz1<<<11630+0x2e0002e0002e0b82e<<<11660+zz41<<<11730+49<<<11940+zz35<<<11950+49<<<11990+zz18<<<12000+0x320c8320002e000010b82e<<<12070+zz21<<<12160+0xc8320c82e<<<12210+zz36<<<12250+0x340d0000d034000370d435034350d4000d4000d4000d435034350d4000d4000d4000d435034350d4000d4000d435<<<12320+zz6<<<12690+52<<<12750+zz7<<<12760+0x32000330cc3300033<<<12890+zz21<<<12960+0x680d0340d0340d0340e4320c82e<<<13010+zz70<<<13120)
theorem ring_ok18 {w:World}:RingOk w ([0,2,3,1],[[2,3,1],[0]]):=ring_of (q:=[0,2,3,1]) (cs:=[[2,3,1],[0]]) N_ring18 fun P eW o g base tk gb p=>⟨by kernel_rfl,fun c2=>⟨by kernel_rfl,fun d2=>⟨by kernel_rfl,fun c1=>⟨by kernel_rfl,fun d1=>ringP_nil (by kernel_rfl)⟩⟩⟩⟩
noncomputable def N_ring19:Nat:=(zz106+zz58<<<3090+zz99<<<4090+zz118<<<5560+0x3c050040f0ac0f<<<10660+zz53<<<10720+zz44<<<10980+0xbc2f<<<11050+zz10<<<11070+zz145<<<11120+zz145<<<11220+15<<<11320+zz96<<<11330+zz37<<<11780+0xc832<<<11850+zz21<<<11870+zz146<<<11920+zz146<<<12020+17<<<12120+zz97<<<12130+zz20<<<12490+54<<<12570+zz111<<<12580+0xdc3700000000370dc000dc37<<<13310+zz15<<<13410+0x370dc370dc00010380e0380e038<<<13550+zz16<<<13660+0xdc3b<<<13770+zz1<<<13800+zz47<<<13830+57<<<13890+zz41<<<13900+60<<<14110+zz35<<<14120+60<<<14160+zz18<<<14170+0x3d00039000010e439<<<14240+zz86<<<14310+0xf43d0f439<<<14380+zz36<<<14420+zz88<<<14490+zz91<<<14560+zz91<<<14660+0xfc3f0003f0fc00108401000d<<<14760+zz6<<<14860+63<<<14920+zz7<<<14930+0x3e0f83e0003e<<<15060+zz45<<<15110+0x7e0fc3f0fc3f0fc3f1103d0f439<<<15180+zz90<<<15290)
theorem ring_ok19 {w:World}:RingOk w ([0,2,1,3],[[3],[2,1],[0]]):=ring_of (q:=[0,2,1,3]) (cs:=[[3],[2,1],[0]]) N_ring19 fun P eW o g base tk gb p=>⟨by kernel_rfl,fun c3=>⟨by kernel_rfl,fun d3=>⟨by kernel_rfl,fun c2=>⟨by kernel_rfl,fun d2=>⟨by kernel_rfl,fun c1=>⟨by kernel_rfl,fun d1=>ringP_nil (by kernel_rfl)⟩⟩⟩⟩⟩⟩
noncomputable def N_ring20:Nat:=(zz113+zz26<<<3550+zz114<<<4260+0x24010240901806<<<5190+zz3<<<5280+0x9004090240601806018000000b02c01<<<5340+zz3<<<5500+0x2800028000280000006000000000001806000000540b02c01<<<5560+0x5816<<<5820+zz14<<<5850+1046<<<5890+zz14<<<5920+0x5c16<<<5960+zz34<<<5980+0x601800000000180600006018<<<6570+zz15<<<6670+0x180601806000010190641906419<<<6810+zz16<<<6920+0x601c<<<7030+zz1<<<7060+0x1a0001a0001a0681a<<<7090+zz17<<<7160+0x740d<<<7360+zz35<<<7380+zz101<<<7420+zz36<<<7680+0x3421084000840008421<<<7750+zz19<<<7830+13<<<7920+zz19<<<7930+13<<<8020+zz102<<<8030+zz44<<<8480+zz72<<<8540+15<<<8620+zz42<<<8630+15<<<8720+zz42<<<8730+15<<<8820+zz103<<<8830+zz12<<<9190+30<<<9270+zz37<<<9280+0x442709c0009c0009c27<<<9350+zz117<<<9430+17<<<9520+zz117<<<9530+0xa42709c11<<<9620+zz24<<<9660+zz12<<<9990+0x2c0a82a04c2a0a8000a8000a8000a82a04c2a0a8000a8000a8000a82a04c2a0a8000a8000a82a000130000104c1304c1e<<<10070+zz24<<<10460+zz12<<<10790+46<<<10870+zz33<<<10880+0x18000c01705c170001700017<<<11030)
theorem ring_ok20 {w:World}:RingOk w ([3,0,1,2],[[3,2,1,0]]):=ring_of (q:=[3,0,1,2]) (cs:=[[3,2,1,0]]) N_ring20 fun P eW o g base tk gb p=>⟨by kernel_rfl,fun c1=>⟨by kernel_rfl,fun d1=>ringP_nil (by kernel_rfl)⟩⟩
noncomputable def N_ring21:Nat:=(zz106+zz58<<<3090+zz26<<<4090+zz114<<<4800+zz39<<<5730+0x3c050040f0740f<<<7690+zz101<<<7750+zz44<<<8010+zz40<<<8070+15<<<8150+zz19<<<8160+15<<<8250+zz19<<<8260+15<<<8350+zz102<<<8360+zz37<<<8810+zz72<<<8870+17<<<8950+zz42<<<8960+17<<<9050+zz42<<<9060+17<<<9150+zz103<<<9160+zz12<<<9520+0x4c2709c0009c0009c27000130000104c1304c1e<<<9600+zz117<<<9760+19<<<9850+zz117<<<9860+0xa42709c13<<<9950+zz24<<<9990+zz12<<<10320+43<<<10400+zz33<<<10410+zz34<<<10550+0xb02c000000002c0b0000b02c<<<11140+zz15<<<11240+0x2c0b02c0b0000102d0b42d0b42d<<<11380+zz16<<<11490+0xb030<<<11600+zz1<<<11630+0x2e0002e0002e0b82e<<<11660+zz41<<<11730+49<<<11940+zz35<<<11950+49<<<11990+zz18<<<12000+0x320c8320002e000010b82e<<<12070+zz21<<<12160+0xc8320c82e<<<12210+zz36<<<12250+0x340d0000d034000370d435034350d4000d4000d4000d435034350d4000d4000d4000d435034350d4000d4000d435<<<12320+zz6<<<12690+52<<<12750+zz7<<<12760+0x32000330cc3300033<<<12890+zz21<<<12960+0x680d0340d0340d0340e4320c82e<<<13010+zz70<<<13120)
theorem ring_ok21 {w:World}:RingOk w ([0,3,1,2],[[3,2,1],[0]]):=ring_of (q:=[0,3,1,2]) (cs:=[[3,2,1],[0]]) N_ring21 fun P eW o g base tk gb p=>⟨by kernel_rfl,fun c2=>⟨by kernel_rfl,fun d2=>⟨by kernel_rfl,fun c1=>⟨by kernel_rfl,fun d1=>ringP_nil (by kernel_rfl)⟩⟩⟩⟩
noncomputable def N_ring22:Nat:=(zz106+zz105<<<3090+zz26<<<4630+zz100<<<5340+zz39<<<6050+0x44050041107411<<<8010+zz101<<<8070+zz37<<<8330+zz40<<<8390+zz71<<<8470+zz71<<<8570+17<<<8670+zz102<<<8680+0x4c000041304c13<<<9130+zz72<<<9190+zz73<<<9270+zz73<<<9370+19<<<9470+zz103<<<9480+zz12<<<9840+40<<<9920+zz33<<<9930+zz27<<<10070+0xa42900000000290a4000a429<<<10670+zz15<<<10770+0x290a4290a4000102a0a82a0a82a<<<10910+zz16<<<11020+0xa42d<<<11130+zz1<<<11160+0x2b0002b0002b0ac2b<<<11190+zz17<<<11260+0x2e03c050040f0b80f<<<11460+zz18<<<11530+0x2f0bc2f0002b000010ac2b<<<11600+zz10<<<11690+0xbc2f0bc2b<<<11740+zz44<<<11780+0xc832<<<11850+zz21<<<11870+0x32000320c80f<<<11920+zz21<<<11970+0x32000320c80f<<<12020+zz21<<<12070+0xd0320c80f<<<12120+zz104<<<12160+0x620c4310c4310c4310d82f0bc2b<<<12540+zz59<<<12650+0xdc3700000000370dc000dc37<<<13310+zz15<<<13410+0x370dc370dc00010380e0380e038<<<13550+zz16<<<13660+0xdc3b<<<13770+zz1<<<13800+zz47<<<13830+57<<<13890+zz41<<<13900+60<<<14110+zz35<<<14120+60<<<14160+zz18<<<14170+0x3d00039000010e439<<<14240+zz86<<<14310+0xf43d0f439<<<14380+zz36<<<14420+zz88<<<14490+zz91<<<14560+zz91<<<14660+0xfc3f0003f0fc00108401000d<<<14760+zz6<<<14860+63<<<14920+zz7<<<14930+0x3e0f83e0003e<<<15060+zz45<<<15110+0x7e0fc3f0fc3f0fc3f1103d0f439<<<15180+zz90<<<15290)
theorem ring_ok22 {w:World}:RingOk w ([0,1,3,2],[[3,2],[1],[0]]):=ring_of (q:=[0,1,3,2]) (cs:=[[3,2],[1],[0]]) N_ring22 fun P eW o g base tk gb p=>⟨by kernel_rfl,fun c3=>⟨by kernel_rfl,fun d3=>⟨by kernel_rfl,fun c2=>⟨by kernel_rfl,fun d2=>⟨by kernel_rfl,fun c1=>⟨by kernel_rfl,fun d1=>ringP_nil (by kernel_rfl)⟩⟩⟩⟩⟩⟩
noncomputable def N_ring23:Nat:=(zz106+zz105<<<3090+zz30<<<4630+zz118<<<5880+0x4405004110ac11<<<10980+zz53<<<11040+zz37<<<11300+0xbc2f<<<11370+zz10<<<11390+0x2f0002f0bc11<<<11440+zz10<<<11490+0x2f0002f0bc11<<<11540+zz10<<<11590+0xc42f0bc11<<<11640+zz29<<<11680+zz20<<<12010+0x60180000000000021702e0b82e0b82e0b833<<<12090+zz27<<<12240+0xd03400000000340d0000d034<<<12840+zz15<<<12940+0x340d0340d000010350d4350d435<<<13080+zz16<<<13190+0xd038<<<13300+zz1<<<13330+0x3600036000360d836<<<13360+zz17<<<13430+0x3c050040f0e40f<<<13630+zz119<<<13690+zz44<<<13950+0xf43d03c3d0f4000f4000f43d<<<14020+zz45<<<14120+0x3d0f40f<<<14190+zz45<<<14220+0x3d0f40f<<<14290+zz120<<<14320+0x1e03c0f03c0f03c0f0410e83a0d83a<<<14700+zz59<<<14820+0x1084200000000421080010842<<<15480+zz15<<<15580+0x4210842108000104310c4310c43<<<15720+zz16<<<15830+0x10846<<<15940+zz1<<<15970+0x44000440004411044<<<16000+zz41<<<16070+71<<<16280+zz35<<<16290+71<<<16330+zz18<<<16340+0x120481204412048000480004812048000440000111044<<<16410+zz36<<<16590+0x12c4b0344b12c0012c0012c4b<<<16660+zz107<<<16760+0x4b12c0d<<<16830+zz107<<<16860+0x1284a0004a128001344b12c0d<<<16930+zz6<<<17030+74<<<17090+zz7<<<17100+0x60005105c1705c0005c0005c00018060000000000008941284a1284a1284a13c4812044120480004800048000491244900049<<<17230)
theorem ring_ok23 {w:World}:RingOk w ([0,1,2,3],[[3],[2],[1],[0]]):=ring_of (q:=[0,1,2,3]) (cs:=[[3],[2],[1],[0]]) N_ring23 fun P eW o g base tk gb p=>⟨by kernel_rfl,fun c4=>⟨by kernel_rfl,fun d4=>⟨by kernel_rfl,fun c3=>⟨by kernel_rfl,fun d3=>⟨by kernel_rfl,fun c2=>⟨by kernel_rfl,fun d2=>⟨by kernel_rfl,fun c1=>⟨by kernel_rfl,fun d1=>ringP_nil (by kernel_rfl)⟩⟩⟩⟩⟩⟩⟩⟩
noncomputable def AllR (w:World):List (List Nat × List (List Nat))→Prop
  | []=>True
  | x :: l=>RingOk w x∧AllR w l
theorem AllR.mem {w:World} {x:List Nat × List (List Nat)} : ∀ {l:List (List Nat × List (List Nat))},AllR w l→x∈l→RingOk w x
  | _ :: _,h,hx=>by
    rcases List.mem_cons.mp hx with rfl | hx
    · exact h.1
    · exact AllR.mem h.2 hx
theorem rings_ok (w:World) : ∀ x∈ringTab,RingOk w x:=fun x hx=>AllR.mem (l:=ringTab) ⟨ring_ok0,ring_ok1,ring_ok2,ring_ok3,ring_ok4,ring_ok5,ring_ok6,ring_ok7,ring_ok8,ring_ok9,ring_ok10,ring_ok11,ring_ok12,ring_ok13,ring_ok14,ring_ok15,ring_ok16,ring_ok17,ring_ok18,ring_ok19,ring_ok20,ring_ok21,ring_ok22,ring_ok23,trivial⟩ hx
end Mine
end
section
open PySem PySem.W PySem.W.X PySem.Calls PyProof.Rows PySem.SeqAt
namespace Mine
noncomputable def frameO (P:Params) (l:List (Str × Nat × Value)) (n:Nat):Obj:=⟨.type "frame", none, .dict (l.map fun x=>(⟨PyData.keyHash P x.1, .str x.1 x.2.1,x.2.2⟩:DictEntry)).toArray n, #[]⟩
noncomputable def tupO (xs:List Value) (n:Nat):Obj:=⟨.type "tuple", none, .seq xs.toArray n, #[]⟩
noncomputable def litO (l:Addr) (i:Int):Obj:=⟨.type "list_iterator", none, .fields #[.ref l, .int i 0], #[]⟩
noncomputable def ritO (v left:Int):Obj:=⟨.type "range_iterator", none, .fields #[.int v 0, .int left 0, .int 1 0], #[]⟩
noncomputable def tabO (l c:Int) (a:Addr):Obj:=⟨.none,none, .fields #[.int l 0, .int c 0, .ref a], #[]⟩
structure FL where
  t:PySem.Expr
  b:List Stmt
  o:List Stmt
noncomputable def forOf:Option Stmt→FL
  | some (.For t _ b o _)=>⟨t,b,o⟩
  | _=>⟨default,[],[]⟩
noncomputable def fnEnv (d:FD) (L:Addr) (qual:Str) (fn:Addr) (code:Value):PySem.Env:={scope:=d.s,locals:=L,globals:=3,cells:=[],qual,func:=some fn,code,frame:=some L,builtins:=0}
noncomputable def leftD:FD:=defAt 17 none
noncomputable def leftFor:FL:=forOf leftD.b[1]?
noncomputable def leftIn:FL:=forOf leftFor.b[2]?
noncomputable def S (l:List Nat):Str:=⟨l.toArray⟩
noncomputable def sLeftQ:Str:=S [95,108,97,119,95,108,101,102,116]
noncomputable def leftEnv (L:Addr):PySem.Env:=fnEnv leftD L ⟨#[95,108,97,119,95,108,101,102,116,46,60,108,111,99,97,108,115,62,46]⟩ 225 (.ref 224)
noncomputable def leftLoop (it L:Addr):Code:= .forLoop leftFor.t (.ref it) leftFor.b leftFor.o (leftEnv L)
noncomputable def leftInLoop (it L:Addr):Code:= .forLoop leftIn.t (.ref it) leftIn.b leftIn.o (leftEnv L)
noncomputable def k_order:Str:=S [111,114,100,101,114]
noncomputable def k_names:Str:=S [110,97,109,101,115]
noncomputable def k_told:Str:=S [116,111,108,100]
noncomputable def k_pile:Str:=S [112,105,108,101]
noncomputable def k_size:Str:=S [115,105,122,101]
noncomputable def k_own:Str:=S [111,119,110]
noncomputable def k_place:Str:=S [112,108,97,99,101]
noncomputable def k_piece:Str:=S [112,105,101,99,101]
noncomputable def k_short:Str:=S [115,104,111,114,116]
noncomputable def k_turn:Str:=S [116,117,114,110]
structure LP where
  aI:Addr
  aF:Addr
  nP:Nat
  aD:Addr
  aO:Addr
  aN:Addr
  aT:Addr
  q:List Nat
  tq:Nat
  t0:Nat
  t1:Nat
  t2:Nat
  t3:Nat
  eN:Nat
  x:Nat→Int
  u:Nat→Nat
  eT:Nat
  z:Int
  kz:Nat
  tz:Nat
  eD:Nat
  f:Nat→Nat
  sz:Int
  ts:Nat
  lb:Nat
noncomputable abbrev LP.aP (P:LP):Addr:=P.nP+236
structure LS where
  sh:Nat
  j:Nat
  own:Str
  to:Nat
  xs:List Value
  eP:Nat
  eF:Nat
  pv:Int
  tp:Nat
  aK:Addr
  sv:Int
  tsv:Nat
  tv:Int
  ttv:Nat
  g:Nat→Nat
noncomputable def LP.frame (P:LP) (w:Params) (t:LS):Obj:=frameO w ([(k_order,P.f 0, .ref P.aO),(k_names,P.f 1, .ref P.aN),(k_told,P.f 2, .ref P.aT),(k_pile,P.f 3, .ref P.aP),(k_size,P.f 4, .int P.sz P.ts),(k_own,P.f 5, .str t.own t.to)] ++
  (match t.sh with | 0=>[] | 1=>[(k_place,t.g 0, .int t.pv t.tp),(k_piece,t.g 1, .ref t.aK),(k_short,t.g 2, .int t.sv t.tsv)] | _=>[(k_place,t.g 0, .int t.pv t.tp),(k_piece,t.g 1, .ref t.aK),(k_short,t.g 2, .int t.sv t.tsv),(k_turn,t.g 3, .int t.tv t.ttv)])) t.eF
noncomputable def LP.led (P:LP) (w:Params) (t:LS):Led:=
  [(P.aI,litO P.aO (Int.ofNat t.j)),(P.aF,P.frame w t),(P.aP,accO P.aD t.xs t.eP),(P.aD,sizeO w P.z P.kz P.tz P.eD),(P.aO,ordO P.tq P.q),(P.aN,namesO P.t0 P.t1 P.t2 P.t3 P.eN),(P.aT,intsO [(P.x 0,P.u 0),(P.x 1,P.u 1),(P.x 2,P.u 2),(P.x 3,P.u 3)] P.eT)]
noncomputable def cNext (xs:List Value) (j:Int) (v:Value):List Prop:=[0≤j,xs[j.toNat]? = some v]
noncomputable def cItem (xs:List Value) (i:Int) (v:Value):List Prop:=[0≤i,i<1000,xs[i.toNat]? = some v]
noncomputable def cMul (x:Str) (n:Int):List Prop:=[n.natAbs≤1000,x.length≤1000]
noncomputable def cLen (x:Str):List Prop:=[x.length≤16777216]
noncomputable def cAdd (x y:Str):List Prop:=[x.length+y.length≤16777216]
noncomputable def AllP (l:List Prop):Prop:= ∀ c∈l,c
theorem AllP.nil:AllP []:=fun _ h=>nomatch h
theorem AllP.cons {p:Prop} {l:List Prop} (h:p) (t:AllP l):AllP (p :: l):=fun c hc=>by
  rcases List.mem_cons.mp hc with rfl | hc
  · exact h
  · exact t c hc
theorem AllP.app {l m:List Prop} (h:AllP l) (t:AllP m):AllP (l++m):=fun c hc=>by
  rcases List.mem_append.mp hc with hc | hc
  · exact h c hc
  · exact t c hc
noncomputable def objTok (o:Obj) (k:Nat):Nat:=match o.data with | .dict es _=>(match es[k]? with | some e=>Value.tok e.val | none=>0) | .seq xs _=>Value.tok (xs.getD k .none) | _=>0
noncomputable def objEp (o:Obj):Nat:=match o.data with | .dict _ n=>n | .seq _ n=>n | _=>0
noncomputable def Out.ob (o:Out) (i:Nat):Obj:=match o.row.rep[i]? with | some (some x)=>x.2 | _=>⟨.none,none, .plain, #[]⟩
noncomputable def Out.dt (o:Out) (i k:Nat):Nat:=objTok (o.ob i) k
noncomputable def objAdr (o:Obj) (k:Nat):Nat:=match o.data with | .dict es _=>(match es[k]? with | some e=>Value.adr e.val | none=>0) | .seq xs _=>Value.adr (xs.getD k .none) | _=>0
noncomputable def objKey (o:Obj) (k:Nat):Nat:=match o.data with | .dict es _=>(match es[k]? with | some e=>Value.tok e.key | none=>0) | _=>0
noncomputable def Out.da (o:Out) (i k:Nat):Nat:=objAdr (o.ob i) k
noncomputable def Out.kt (o:Out) (i k:Nat):Nat:=objKey (o.ob i) k
noncomputable def Out.ep (o:Out) (i:Nat):Nat:=objEp (o.ob i)
noncomputable def LP.ordL (P:LP):List Value:=P.q.map fun i => .int (Int.ofNat i) (ordTok P.tq i)
noncomputable def LP.nmL (P:LP):List Value:=[.str ⟨#[34]⟩ P.t0, .str ⟨#[92]⟩ P.t1, .str ⟨#[32]⟩ P.t2, .str ⟨#[10]⟩ P.t3]
noncomputable def LP.tdL (P:LP):List Value:=[.int (P.x 0) (P.u 0), .int (P.x 1) (P.u 1), .int (P.x 2) (P.u 2), .int (P.x 3) (P.u 3)]
structure TP where
  pl:Nat
  tp:Nat
  nm:Str
  tn:Nat
  x:Int
  tx:Nat
noncomputable def TP.vs (q:TP):List Value:=[.str q.nm q.tn, .int q.x q.tx, .int (Int.ofNat q.pl) q.tp]
noncomputable def sp1:Str:=⟨#[32]⟩
noncomputable def LP.cHead (P:LP) (t:LS) (q:TP):List Prop:=cItem P.tdL (Int.ofNat q.pl) (.int q.x q.tx)++(cItem P.nmL (Int.ofNat q.pl) (.str q.nm q.tn)++cNext P.ordL (Int.ofNat t.j) (.int (Int.ofNat q.pl) q.tp))
noncomputable def LP.cRow (P:LP) (t:LS) (q:TP):List Prop:=cItem P.tdL (Int.ofNat q.pl) (.int q.x q.tx)++(cLen t.own++(cAdd t.own (rep q.nm q.x)++(cMul q.nm q.x++(cItem P.tdL (Int.ofNat q.pl) (.int q.x q.tx)++cItem P.nmL (Int.ofNat q.pl) (.str q.nm q.tn)))))
noncomputable def outFn (b:List Stmt) (e:PySem.Env) (p:Pos) (o:OP):Stk:=(.func b e,p) :: o.out
structure CX where
  b:List Stmt
  e:PySem.Env
  p' : Pos
  o:OP
  g:Gh
  base:Nat
  tk:Nat
  gb:Nat
  p:Pos
noncomputable def CX.out (c:CX):Stk:=outFn c.b c.e c.p' c.o
noncomputable def LP.run (P:LP) (w:World) (t:LS) (r:Ora) (c:CX) (ids:List Nat) (X:Led) (N:Nat):Out:=
  (sg w c.out ids r (P.led w.params t++X) c.g c.base c.tk c.gb (leftLoop P.aI P.aF) c.p).run 700 N
structure PQ where
  a:Addr
  w:Str
  tw:Nat
  n:Str
  tn:Nat
  e:Nat
noncomputable def PQ.led (z:PQ):Led:=[(z.a,tupO [.str z.w z.tw, .str z.n z.tn] z.e)]
structure IN where
  xs:List Value
  eP:Nat
  eF:Nat
  aK:Addr
  sv:Int
  tsv:Nat
  tv:Int
  ttv:Nat
  g:Nat→Nat
  rv:Int
  b:Nat
  k:Nat
  gb:Nat
noncomputable def IN.ls (i:IN) (t:LS):LS:={t with sh:=2,xs:=i.xs,eP:=i.eP,eF:=i.eF,aK:=i.aK,sv:=i.sv,tsv:=i.tsv,tv:=i.tv,ttv:=i.ttv,g:=i.g}
noncomputable def IN.eff (i:IN) (P:LP) (w:Params) (t:LS) (ix aR:Nat) (new:Led):Eff:=
  ⟨.ok .next,[(ix,aR,ritO i.rv 0),(1,P.aF,P.frame w (i.ls t)),(2,P.aP,accO P.aD i.xs i.eP)],new,i.b,i.k,i.gb⟩
noncomputable def i0:IN:=⟨[],0,0,0,0,0,0,0,fun _=>0,0,0,0,0⟩
end Mine
end
section
open PySem PySem.W PySem.W.X PySem.Calls PyProof.Rows PySem.SeqAt
namespace Mine
noncomputable def tokD:FD:=defAt 10 (some 2)
noncomputable def ifOf:Option Stmt→List Stmt × List Stmt
  | some (.If _ b o _)=>(b,o)
  | _=>([],[])
noncomputable def tokFor:FL:=forOf tokD.b[3]?
noncomputable def tokIf:List Stmt × List Stmt:=ifOf tokFor.b[1]?
noncomputable def tokQ:FL:=forOf tokIf.1[0]?
noncomputable def tokU:FL:=forOf tokIf.2[2]?
noncomputable def sTok:Str:=S [95,110,101,116,114,99,108,101,120,46,103,101,116,95,116,111,107,101,110,46,60,108,111,99,97,108,115,62,46]
noncomputable def tokEnv (L:Addr):PySem.Env:=fnEnv tokD L sTok 177 (.ref 176)
noncomputable def tokLoop (it L:Addr):Code:= .forLoop tokFor.t (.ref it) tokFor.b tokFor.o (tokEnv L)
noncomputable def qLoop (it L:Addr):Code:= .forLoop tokQ.t (.ref it) tokQ.b tokQ.o (tokEnv L)
noncomputable def uLoop (it L:Addr):Code:= .forLoop tokU.t (.ref it) tokU.b tokU.o (tokEnv L)
noncomputable def lexD:FD:=defAt 12 none
noncomputable def readD:FD:=fdOf lexD.b[1]?
noncomputable def k_self:Str:=S [115,101,108,102]
noncomputable def k_token:Str:=S [116,111,107,101,110]
noncomputable def k_fiter:Str:=S [102,105,116,101,114]
noncomputable def k_ch:Str:=S [99,104]
noncomputable def k_lineno:Str:=S [108,105,110,101,110,111]
noncomputable def k_instream:Str:=S [105,110,115,116,114,101,97,109]
noncomputable def k_white:Str:=S [119,104,105,116,101,115,112,97,99,101]
noncomputable def k_push:Str:=S [112,117,115,104,98,97,99,107]
noncomputable def k_read:Str:=S [114,101,97,100]
noncomputable def k_text:Str:=S [116,101,120,116]
noncomputable def k_at:Str:=S [97,116]
noncomputable def wsS:Str:=S [10,9,13,32]
noncomputable def sRead:Str:=S [95,108,97,119,95,108,101,120,101,114,46,60,108,111,99,97,108,115,62,46,95,108,97,119,95,114,101,97,100]
noncomputable def codeO (q:Str) (f:Nat→Value):Obj:=⟨.type "code", none, .fields #[f 0, .str q (Value.tok (f 1)),f 2,f 3,f 4,f 5,f 6,f 7,f 8,f 9,f 10,f 11,f 12,f 13,f 14,f 15,f 16,f 17,f 18], #[]⟩
structure RD where
  aC:Addr
  aF:Addr
  aM:Addr
  aR:Addr
  aD:Addr
  aP:Addr
  aS:Addr
  aE:Addr
  aL:Addr
  aK:Addr
  aA:Addr
  aX:Addr
  aB:Addr
  x:Str
  tx:Nat
  f:Nat→Nat
  fd:FuncData
  fr:FuncData
  cv:Nat→Value
structure RS where
  ln:Int
  tl:Nat
  i:Int
  ti:Nat
  tok:Str
  tt:Nat
  ch:Str
  tc:Nat
  eF:Nat
  g:Nat
noncomputable def dictO (P:Params) (l:List (Str × Nat × Value)) (n:Nat):Obj:=⟨.type "dict", none, .dict (l.map fun x=>(⟨PyData.keyHash P x.1, .str x.1 x.2.1,x.2.2⟩:DictEntry)).toArray n, #[]⟩
noncomputable def cellO (v:Value):Obj:=⟨.type "cell", none, .cell (some v), #[]⟩
noncomputable def citO (m:Addr) (t:Nat):Obj:=⟨.type "callable_iterator", none, .fields #[.ref m, .str (S []) t, .bool false], #[]⟩
noncomputable def RD.frame (P:RD) (w:Params) (sh:Nat) (t:RS):Obj:=frameO w ([(k_self,P.f 0, .ref P.aR),(k_token,P.f 1, .str t.tok t.tt),(k_fiter,P.f 2, .ref P.aC)]++(match sh with | 0=>[] | _=>[(k_ch,t.g, .str t.ch t.tc)])) t.eF
noncomputable def RD.obj (P:RD) (w:Params) (t:RS):Led:=
  [(P.aR,⟨.ref 187,some P.aD, .plain, #[]⟩),
   (P.aD,dictO w [(k_lineno,P.f 3, .int t.ln t.tl),(k_instream,P.f 4, .ref P.aS),(k_white,P.f 5, .str wsS (P.f 6)),(k_push,P.f 7, .ref P.aP)] (P.f 8)),
   (P.aP,listO [] (P.f 9)),
   (P.aS,⟨.type "function", some P.aE, .func P.fd, #[]⟩),
   (P.aE,dictO w [(k_read,P.f 10, .ref P.aL)] (P.f 11)),
   (P.aL,⟨.type "function", none, .func {P.fr with params:=readD.a,body:= .stmts readD.b,scope:=readD.s,globals:=3,closure:=[(k_text,P.aX),(k_at,P.aA)],defaults:= .none,kwdefaults:= .none,code:= .ref P.aK,builtins:=0}, #[]⟩),
   (P.aK,codeO sRead P.cv),
   (P.aA,cellO (.ref P.aB)),
   (P.aX,cellO (.str P.x P.tx)),
   (P.aB,listO [.int t.i t.ti] (P.f 12))]
noncomputable def citE:Obj:=⟨.type "callable_iterator", none, .fields #[.none, .none, .bool true], #[]⟩
noncomputable def RD.led (P:RD) (w:Params) (sh:Nat) (t:RS) (fin:Bool:=false):Led:=
  [(P.aC,match fin with | false=>citO P.aM (P.f 13) | true=>citE),(P.aF,P.frame w sh t),(P.aM,⟨.type "method", none, .fields #[.ref 170, .ref P.aR], #[]⟩)]++P.obj w t
noncomputable def ch1 (c:Nat):Str:=⟨#[c+1]⟩
noncomputable def cSlc (x:Str) (l u:Int × Nat) (y:Str):List Prop:=[slc x (some l) (some u)=y,(slc x (some l) (some u)).length≤16777216]
end Mine
end
section
open PySem PySem.W PySem.W.X PySem.Calls PyProof.Rows PySem.SeqAt
namespace Mine
structure CP where
  e:PySem.Expr
  gs:List Comprehension
  sc:Scope
  ps:Pos
noncomputable def compIn:PySem.Expr→CP
  | .ListComp e g s p=>⟨e,g,s,p⟩
  | .GeneratorExp e g s p=>⟨e,g,s,p⟩
  | .Call _ (a :: _) _ _=>(match a with | .ListComp e g s p=>⟨e,g,s,p⟩ | .GeneratorExp e g s p=>⟨e,g,s,p⟩ | _=>⟨default,[],default,default⟩)
  | _=>⟨default,[],default,default⟩
noncomputable def rhsOf:Option Stmt→PySem.Expr
  | some (.Assign _ v _)=>v
  | some (.Return (some v) _)=>v
  | _=>default
noncomputable def CP.expr (c:CP):PySem.Expr:= .ListComp c.e c.gs c.sc c.ps
noncomputable def sheetD:FD:=defAt 15 none
noncomputable def sheetFor:FL:=forOf sheetD.b[3]?
noncomputable def sheetC:CP:=compIn (rhsOf sheetFor.b[3]?)
noncomputable def sSheet:Str:=S [95,108,97,119,95,115,104,101,101,116,46,60,108,111,99,97,108,115,62,46]
noncomputable def k_hidden:Str:=S [104,105,100,100,101,110]
noncomputable def k_sign:Str:=S [115,105,103,110]
noncomputable def sheetEnv (L H:Addr):PySem.Env:={fnEnv sheetD L sSheet 215 (.ref 214) with cells:=[(k_hidden,H)]}
noncomputable def signEnv (Z L H:Addr):PySem.Env:={scope:={sheetC.sc with names:=[(S [46,48], .local),(k_sign, .local),(k_hidden, .cell)]},locals:=Z,globals:=3,cells:=[(k_hidden,H)],qual:=sSheet,func:=none,code:= .ref 214,frame:=some L,builtins:=0}
noncomputable def sheetLoop (it L H:Addr):Code:= .forLoop sheetFor.t (.ref it) sheetFor.b sheetFor.o (sheetEnv L H)
noncomputable def signStart (it acc Z L H:Addr):Code:= .compStart sheetC.expr 0 (.ref it) (.ref acc) (signEnv Z L H)
noncomputable def signLoop (it acc Z L H:Addr):Code:= .compLoop sheetC.expr 0 (.ref it) (.ref acc) (signEnv Z L H)
noncomputable def ascO (x:Str) (t:Nat) (i:Int):Obj:=⟨.type "str_ascii_iterator", none, .fields #[.str x t, .int i 0], #[]⟩
noncomputable def ascE:Obj:=⟨.type "str_ascii_iterator", none, .fields #[.none, .int 0 0], #[]⟩
end Mine
end
section
open PySem PySem.W PySem.W.X PySem.Calls PyProof.Rows PySem.SeqAt
namespace Mine
noncomputable def lexIds:List Nat:=[0,1,2,3,4,5,6,7,8,9,10,11,12]
structure GX where
  g:Gh
  base:Nat
  tk:Nat
  gb:Nat
  p:Pos
noncomputable def RD.run (P:RD) (w:World) (cd:Addr→Addr→Code) (sh:Nat) (t:RS) (ss:List Str) (ol:Stk) (c:GX) (N:Nat):Out:=
  (sg w ol lexIds {exs:=[lexIds],ss:=ss} (P.led w.params sh t) c.g c.base c.tk c.gb (cd P.aC P.aF) c.p).run 800 N
noncomputable def inWs (d:Nat):Bool:= !(PySem.W.Fast.tw15715988071286343644 wsS (ch1 d) 0 wsS.length 1).isEmpty
noncomputable def eqS (x y:Str):Bool:=x.cps.toList == y.cps.toList
noncomputable def cRd (P:RD) (i:Int) (a b:Nat) (y:Str):List Prop:=[slc P.x (some (i - 1,a)) (some (i,b))=y,(slc P.x (some (i - 1,a)) (some (i,b))).length≤16777216]
noncomputable def cSg (d:Nat):List Prop:=[eqS (S []) (ch1 d)=false,eqS (ch1 d) (S [10])=false]
noncomputable def cNl (d:Nat):List Prop:=[eqS (ch1 d) (S [10])=false]
noncomputable def cWs (d:Nat) (b:Bool):List Prop:=[inWs d=b]
noncomputable def cIs (d k:Nat):List Prop:=[eqS (ch1 d) (S [k])=false]
structure RI where
  u:RS
  y:Str
  ty:Nat
  b:Nat
  k:Nat
  g:Nat
noncomputable def RI.eff (i:RI) (P:RD) (w:Params):Eff:=⟨.ok (.ret (.str i.y i.ty)),zipU lexIds (P.led w 1 i.u),[],i.b,i.k,i.g⟩
noncomputable def RI.effE (i:RI) (P:RD) (w:Params):Eff:=⟨.ok .next,zipU lexIds (P.led w 1 i.u true),[],i.b,i.k,i.g⟩
noncomputable def Out.sp2 (o:Out):Pos:=match o.row.stk with | x :: _=>x.2 | _=>default
structure QX where
  t:PySem.Expr
  it:Value
  b:List Stmt
  o:List Stmt
  e:PySem.Env
  p:Pos
  b2:List Stmt
  e2:PySem.Env
  p2:Pos
  q:OP
noncomputable def QX.out (c:QX):Stk:=(.forLoop c.t c.it c.b c.o c.e,c.p) :: (.func c.b2 c.e2,c.p2) :: c.q.out
noncomputable def CX.qx (x:CX) (P:RD) (p:Pos):QX:=⟨tokFor.t, .ref P.aC,tokFor.b,tokFor.o,tokEnv P.aF,p,x.b,x.e,x.p',x.o⟩
noncomputable def N_ows0:Nat:=(zz108+1025<<<1400)
noncomputable abbrev RD.l_ows0 (P:RD) (w:World) (t:RS) (x:CX) (c:GX) (d:Nat):Out:=P.run w tokLoop 0 t [ch1 d] x.out c N_ows0
theorem lx_ows0 (P:RD) (w:World) (t:RS) (x:CX) (c:GX) (d:Nat) :
    isAgain (P.l_ows0 w t x c d) (tokLoop P.aC P.aF) ((P.led w.params 1 {t with i:=t.i+1,ti:=(P.l_ows0 w t x c d).dt 12 0,ch:=(ch1 d),tc:=(P.l_ows0 w t x c d).dt 1 3,eF:=(P.l_ows0 w t x c d).ep 1,g:=(P.l_ows0 w t x c d).kt 1 3}).map some) (cWs d true++(cSg d++(cRd P (t.i+1) (c.tk+8) (c.tk+6) (ch1 d)))):=by
  kernel_rfl
noncomputable def N_ows1:Nat:=(zz108+1025<<<1400)
noncomputable abbrev RD.l_ows1 (P:RD) (w:World) (t:RS) (x:CX) (c:GX) (d:Nat):Out:=P.run w tokLoop 1 t [ch1 d] x.out c N_ows1
theorem lx_ows1 (P:RD) (w:World) (t:RS) (x:CX) (c:GX) (d:Nat) :
    isAgain (P.l_ows1 w t x c d) (tokLoop P.aC P.aF) ((P.led w.params 1 {t with i:=t.i+1,ti:=(P.l_ows1 w t x c d).dt 12 0,ch:=(ch1 d),tc:=(P.l_ows1 w t x c d).dt 1 3,eF:=(P.l_ows1 w t x c d).ep 1,g:=(P.l_ows1 w t x c d).kt 1 3}).map some) (cWs d true++(cSg d++(cRd P (t.i+1) (c.tk+8) (c.tk+6) (ch1 d)))):=by
  kernel_rfl
noncomputable def N_onl0:Nat:=(zz31+14<<<1100+zz62<<<1110+0x1004010000e<<<1480+zz2<<<1580+0x4000000000005000040100000000010000000000004<<<1620)
noncomputable abbrev RD.l_onl0 (P:RD) (w:World) (t:RS) (x:CX) (c:GX):Out:=P.run w tokLoop 0 t [S [10]] x.out c N_onl0
theorem lx_onl0 (P:RD) (w:World) (t:RS) (x:CX) (c:GX) :
    isAgain (P.l_onl0 w t x c) (tokLoop P.aC P.aF) ((P.led w.params 1 {t with i:=t.i+1,ti:=(P.l_onl0 w t x c).dt 12 0,ch:=(S [10]),tc:=(P.l_onl0 w t x c).dt 1 3,eF:=(P.l_onl0 w t x c).ep 1,g:=(P.l_onl0 w t x c).kt 1 3,ln:=t.ln+1,tl:=(P.l_onl0 w t x c).dt 4 0}).map some) (cRd P (t.i+1) (c.tk+8) (c.tk+6) (S [10])):=by
  kernel_rfl
noncomputable def N_onl1:Nat:=(zz31+14<<<1100+zz62<<<1110+0x1004010000e<<<1480+zz2<<<1580+0x4000000000005000040100000000010000000000004<<<1620)
noncomputable abbrev RD.l_onl1 (P:RD) (w:World) (t:RS) (x:CX) (c:GX):Out:=P.run w tokLoop 1 t [S [10]] x.out c N_onl1
theorem lx_onl1 (P:RD) (w:World) (t:RS) (x:CX) (c:GX) :
    isAgain (P.l_onl1 w t x c) (tokLoop P.aC P.aF) ((P.led w.params 1 {t with i:=t.i+1,ti:=(P.l_onl1 w t x c).dt 12 0,ch:=(S [10]),tc:=(P.l_onl1 w t x c).dt 1 3,eF:=(P.l_onl1 w t x c).ep 1,g:=(P.l_onl1 w t x c).kt 1 3,ln:=t.ln+1,tl:=(P.l_onl1 w t x c).dt 4 0}).map some) (cRd P (t.i+1) (c.tk+8) (c.tk+6) (S [10])):=by
  kernel_rfl
noncomputable def N_oq0:Nat:=(zz61+0x1004020000000001<<<1420+zz0<<<1490+2049<<<1530)
noncomputable abbrev RD.l_oq0 (P:RD) (w:World) (t:RS) (x:CX) (c:GX):Out:=P.run w tokLoop 0 t [S [34]] x.out c N_oq0
theorem lx_oq0 (P:RD) (w:World) (t:RS) (x:CX) (c:GX) (i:RI) :
    isCut (P.l_oq0 w t x c) (qLoop P.aC P.aF) ((P.led w.params 1 {t with i:=t.i+1,ti:=(P.l_oq0 w t x c).dt 12 0,ch:=(S [34]),tc:=(P.l_oq0 w t x c).dt 1 3,eF:=(P.l_oq0 w t x c).ep 1,g:=(P.l_oq0 w t x c).kt 1 3}).map some) (cRd P (t.i+1) (c.tk+8) (c.tk+6) (S [34])) ∧
    (P.l_oq0 w t x c).row.stk=(x.qx P (P.l_oq0 w t x c).sp2).out ∧
    isRet ((P.l_oq0 w t x c).rest (i.eff P w.params)) (.ok (.ret (.str i.y i.ty))) ((P.led w.params 1 i.u).map some) []:=by
  refine ⟨?_, ?_, ?_⟩ <;> kernel_rfl
noncomputable def N_oq1:Nat:=(zz61+0x1004020000000001<<<1420+zz0<<<1490+2049<<<1530)
noncomputable abbrev RD.l_oq1 (P:RD) (w:World) (t:RS) (x:CX) (c:GX):Out:=P.run w tokLoop 1 t [S [34]] x.out c N_oq1
theorem lx_oq1 (P:RD) (w:World) (t:RS) (x:CX) (c:GX) (i:RI) :
    isCut (P.l_oq1 w t x c) (qLoop P.aC P.aF) ((P.led w.params 1 {t with i:=t.i+1,ti:=(P.l_oq1 w t x c).dt 12 0,ch:=(S [34]),tc:=(P.l_oq1 w t x c).dt 1 3,eF:=(P.l_oq1 w t x c).ep 1,g:=(P.l_oq1 w t x c).kt 1 3}).map some) (cRd P (t.i+1) (c.tk+8) (c.tk+6) (S [34])) ∧
    (P.l_oq1 w t x c).row.stk=(x.qx P (P.l_oq1 w t x c).sp2).out ∧
    isRet ((P.l_oq1 w t x c).rest (i.eff P w.params)) (.ok (.ret (.str i.y i.ty))) ((P.led w.params 1 i.u).map some) []:=by
  refine ⟨?_, ?_, ?_⟩ <;> kernel_rfl
noncomputable def N_op0:Nat:=(zz108+2050<<<1400+zz50<<<1420+zz46<<<1470+zz76<<<1530+2049<<<1670)
noncomputable abbrev RD.l_op0 (P:RD) (w:World) (t:RS) (x:CX) (c:GX) (d:Nat):Out:=P.run w tokLoop 0 t [ch1 d] x.out c N_op0
theorem lx_op0 (P:RD) (w:World) (t:RS) (x:CX) (c:GX) (d:Nat) (i:RI) :
    isCut (P.l_op0 w t x c d) (uLoop P.aC P.aF) ((P.led w.params 1 {t with i:=t.i+1,ti:=(P.l_op0 w t x c d).dt 12 0,ch:=(ch1 d),tc:=(P.l_op0 w t x c d).dt 1 3,eF:=(P.l_op0 w t x c d).ep 1,g:=(P.l_op0 w t x c d).kt 1 3,tok:=t.tok++(ch1 d),tt:=(P.l_op0 w t x c d).dt 1 1}).map some) (cAdd t.tok (ch1 d)++(cIs d 92++(cIs d 34++(cWs d false++(cSg d++(cRd P (t.i+1) (c.tk+8) (c.tk+6) (ch1 d))))))) ∧
    (P.l_op0 w t x c d).row.stk=(x.qx P (P.l_op0 w t x c d).sp2).out ∧
    isRet ((P.l_op0 w t x c d).rest (i.eff P w.params)) (.ok (.ret (.str i.y i.ty))) ((P.led w.params 1 i.u).map some) []:=by
  refine ⟨?_, ?_, ?_⟩ <;> kernel_rfl
noncomputable def N_op1:Nat:=(zz108+2050<<<1400+zz50<<<1420+zz46<<<1470+zz76<<<1530+2049<<<1670)
noncomputable abbrev RD.l_op1 (P:RD) (w:World) (t:RS) (x:CX) (c:GX) (d:Nat):Out:=P.run w tokLoop 1 t [ch1 d] x.out c N_op1
theorem lx_op1 (P:RD) (w:World) (t:RS) (x:CX) (c:GX) (d:Nat) (i:RI) :
    isCut (P.l_op1 w t x c d) (uLoop P.aC P.aF) ((P.led w.params 1 {t with i:=t.i+1,ti:=(P.l_op1 w t x c d).dt 12 0,ch:=(ch1 d),tc:=(P.l_op1 w t x c d).dt 1 3,eF:=(P.l_op1 w t x c d).ep 1,g:=(P.l_op1 w t x c d).kt 1 3,tok:=t.tok++(ch1 d),tt:=(P.l_op1 w t x c d).dt 1 1}).map some) (cAdd t.tok (ch1 d)++(cIs d 92++(cIs d 34++(cWs d false++(cSg d++(cRd P (t.i+1) (c.tk+8) (c.tk+6) (ch1 d))))))) ∧
    (P.l_op1 w t x c d).row.stk=(x.qx P (P.l_op1 w t x c d).sp2).out ∧
    isRet ((P.l_op1 w t x c d).rest (i.eff P w.params)) (.ok (.ret (.str i.y i.ty))) ((P.led w.params 1 i.u).map some) []:=by
  refine ⟨?_, ?_, ?_⟩ <;> kernel_rfl
noncomputable def N_oe0:Nat:=(zz121+zz122<<<2640+zz76<<<2750+2049<<<2890)
noncomputable abbrev RD.l_oe0 (P:RD) (w:World) (t:RS) (x:CX) (c:GX) (d:Nat):Out:=P.run w tokLoop 0 t [S [92],ch1 d] x.out c N_oe0
theorem lx_oe0 (P:RD) (w:World) (t:RS) (x:CX) (c:GX) (d:Nat) (i:RI) :
    isCut (P.l_oe0 w t x c d) (uLoop P.aC P.aF) ((P.led w.params 1 {t with i:=t.i+1+1,ti:=(P.l_oe0 w t x c d).dt 12 0,ch:=(ch1 d),tc:=(P.l_oe0 w t x c d).dt 1 3,eF:=(P.l_oe0 w t x c d).ep 1,g:=(P.l_oe0 w t x c d).kt 1 3,tok:=t.tok++(ch1 d),tt:=(P.l_oe0 w t x c d).dt 1 1}).map some) (cAdd t.tok (ch1 d)++(cNl d++(cRd P (t.i+1+1) (c.tk+25) (c.tk+23) (ch1 d)++(cRd P (t.i+1) (c.tk+8) (c.tk+6) (S [92]))))) ∧
    (P.l_oe0 w t x c d).row.stk=(x.qx P (P.l_oe0 w t x c d).sp2).out ∧
    isRet ((P.l_oe0 w t x c d).rest (i.eff P w.params)) (.ok (.ret (.str i.y i.ty))) ((P.led w.params 1 i.u).map some) []:=by
  refine ⟨?_, ?_, ?_⟩ <;> kernel_rfl
noncomputable def N_oe1:Nat:=(zz121+zz122<<<2640+zz76<<<2750+2049<<<2890)
noncomputable abbrev RD.l_oe1 (P:RD) (w:World) (t:RS) (x:CX) (c:GX) (d:Nat):Out:=P.run w tokLoop 1 t [S [92],ch1 d] x.out c N_oe1
theorem lx_oe1 (P:RD) (w:World) (t:RS) (x:CX) (c:GX) (d:Nat) (i:RI) :
    isCut (P.l_oe1 w t x c d) (uLoop P.aC P.aF) ((P.led w.params 1 {t with i:=t.i+1+1,ti:=(P.l_oe1 w t x c d).dt 12 0,ch:=(ch1 d),tc:=(P.l_oe1 w t x c d).dt 1 3,eF:=(P.l_oe1 w t x c d).ep 1,g:=(P.l_oe1 w t x c d).kt 1 3,tok:=t.tok++(ch1 d),tt:=(P.l_oe1 w t x c d).dt 1 1}).map some) (cAdd t.tok (ch1 d)++(cNl d++(cRd P (t.i+1+1) (c.tk+25) (c.tk+23) (ch1 d)++(cRd P (t.i+1) (c.tk+8) (c.tk+6) (S [92]))))) ∧
    (P.l_oe1 w t x c d).row.stk=(x.qx P (P.l_oe1 w t x c d).sp2).out ∧
    isRet ((P.l_oe1 w t x c d).rest (i.eff P w.params)) (.ok (.ret (.str i.y i.ty))) ((P.led w.params 1 i.u).map some) []:=by
  refine ⟨?_, ?_, ?_⟩ <;> kernel_rfl
noncomputable def N_on0:Nat:=(zz121+zz123<<<2640+zz76<<<3130+2049<<<3270)
noncomputable abbrev RD.l_on0 (P:RD) (w:World) (t:RS) (x:CX) (c:GX):Out:=P.run w tokLoop 0 t [S [92],S [10]] x.out c N_on0
theorem lx_on0 (P:RD) (w:World) (t:RS) (x:CX) (c:GX) (i:RI) :
    isCut (P.l_on0 w t x c) (uLoop P.aC P.aF) ((P.led w.params 1 {t with i:=t.i+1+1,ti:=(P.l_on0 w t x c).dt 12 0,ch:=(S [10]),tc:=(P.l_on0 w t x c).dt 1 3,eF:=(P.l_on0 w t x c).ep 1,g:=(P.l_on0 w t x c).kt 1 3,tok:=t.tok++(S [10]),tt:=(P.l_on0 w t x c).dt 1 1,ln:=t.ln+1,tl:=(P.l_on0 w t x c).dt 4 0}).map some) (cAdd t.tok (S [10])++(cRd P (t.i+1+1) (c.tk+25) (c.tk+23) (S [10])++(cRd P (t.i+1) (c.tk+8) (c.tk+6) (S [92])))) ∧
    (P.l_on0 w t x c).row.stk=(x.qx P (P.l_on0 w t x c).sp2).out ∧
    isRet ((P.l_on0 w t x c).rest (i.eff P w.params)) (.ok (.ret (.str i.y i.ty))) ((P.led w.params 1 i.u).map some) []:=by
  refine ⟨?_, ?_, ?_⟩ <;> kernel_rfl
noncomputable def N_on1:Nat:=(zz121+zz123<<<2640+zz76<<<3130+2049<<<3270)
noncomputable abbrev RD.l_on1 (P:RD) (w:World) (t:RS) (x:CX) (c:GX):Out:=P.run w tokLoop 1 t [S [92],S [10]] x.out c N_on1
theorem lx_on1 (P:RD) (w:World) (t:RS) (x:CX) (c:GX) (i:RI) :
    isCut (P.l_on1 w t x c) (uLoop P.aC P.aF) ((P.led w.params 1 {t with i:=t.i+1+1,ti:=(P.l_on1 w t x c).dt 12 0,ch:=(S [10]),tc:=(P.l_on1 w t x c).dt 1 3,eF:=(P.l_on1 w t x c).ep 1,g:=(P.l_on1 w t x c).kt 1 3,tok:=t.tok++(S [10]),tt:=(P.l_on1 w t x c).dt 1 1,ln:=t.ln+1,tl:=(P.l_on1 w t x c).dt 4 0}).map some) (cAdd t.tok (S [10])++(cRd P (t.i+1+1) (c.tk+25) (c.tk+23) (S [10])++(cRd P (t.i+1) (c.tk+8) (c.tk+6) (S [92])))) ∧
    (P.l_on1 w t x c).row.stk=(x.qx P (P.l_on1 w t x c).sp2).out ∧
    isRet ((P.l_on1 w t x c).rest (i.eff P w.params)) (.ok (.ret (.str i.y i.ty))) ((P.led w.params 1 i.u).map some) []:=by
  refine ⟨?_, ?_, ?_⟩ <;> kernel_rfl
noncomputable def N_opx0:Nat:=(zz108+2050<<<1400+zz50<<<1420+zz46<<<1470+zz76<<<1530+2049<<<1670+zz0<<<1700+0x4801<<<1740)
noncomputable abbrev RD.l_opx0 (P:RD) (w:World) (t:RS) (x:CX) (c:GX) (d:Nat):Out:=P.run w tokLoop 0 t [ch1 d] x.out c N_opx0
theorem lx_opx0 (P:RD) (w:World) (t:RS) (x:CX) (c:GX) (d:Nat) (i:RI) :
    isCut (P.l_opx0 w t x c d) (uLoop P.aC P.aF) ((P.led w.params 1 {t with i:=t.i+1,ti:=(P.l_opx0 w t x c d).dt 12 0,ch:=(ch1 d),tc:=(P.l_opx0 w t x c d).dt 1 3,eF:=(P.l_opx0 w t x c d).ep 1,g:=(P.l_opx0 w t x c d).kt 1 3,tok:=t.tok++(ch1 d),tt:=(P.l_opx0 w t x c d).dt 1 1}).map some) (cAdd t.tok (ch1 d)++(cIs d 92++(cIs d 34++(cWs d false++(cSg d++(cRd P (t.i+1) (c.tk+8) (c.tk+6) (ch1 d))))))) ∧
    (P.l_opx0 w t x c d).row.stk=(x.qx P (P.l_opx0 w t x c d).sp2).out ∧
    isRet ((P.l_opx0 w t x c d).rest (i.effE P w.params)) (.ok .next) ((P.led w.params 1 i.u true).map some) []:=by
  refine ⟨?_, ?_, ?_⟩ <;> kernel_rfl
noncomputable def N_opx1:Nat:=(zz108+2050<<<1400+zz50<<<1420+zz46<<<1470+zz76<<<1530+2049<<<1670+zz0<<<1700+0x4801<<<1740)
noncomputable abbrev RD.l_opx1 (P:RD) (w:World) (t:RS) (x:CX) (c:GX) (d:Nat):Out:=P.run w tokLoop 1 t [ch1 d] x.out c N_opx1
theorem lx_opx1 (P:RD) (w:World) (t:RS) (x:CX) (c:GX) (d:Nat) (i:RI) :
    isCut (P.l_opx1 w t x c d) (uLoop P.aC P.aF) ((P.led w.params 1 {t with i:=t.i+1,ti:=(P.l_opx1 w t x c d).dt 12 0,ch:=(ch1 d),tc:=(P.l_opx1 w t x c d).dt 1 3,eF:=(P.l_opx1 w t x c d).ep 1,g:=(P.l_opx1 w t x c d).kt 1 3,tok:=t.tok++(ch1 d),tt:=(P.l_opx1 w t x c d).dt 1 1}).map some) (cAdd t.tok (ch1 d)++(cIs d 92++(cIs d 34++(cWs d false++(cSg d++(cRd P (t.i+1) (c.tk+8) (c.tk+6) (ch1 d))))))) ∧
    (P.l_opx1 w t x c d).row.stk=(x.qx P (P.l_opx1 w t x c d).sp2).out ∧
    isRet ((P.l_opx1 w t x c d).rest (i.effE P w.params)) (.ok .next) ((P.led w.params 1 i.u true).map some) []:=by
  refine ⟨?_, ?_, ?_⟩ <;> kernel_rfl
noncomputable def N_oex0:Nat:=(zz121+zz122<<<2640+zz76<<<2750+2049<<<2890+zz0<<<2920+0x5401<<<2960)
noncomputable abbrev RD.l_oex0 (P:RD) (w:World) (t:RS) (x:CX) (c:GX) (d:Nat):Out:=P.run w tokLoop 0 t [S [92],ch1 d] x.out c N_oex0
theorem lx_oex0 (P:RD) (w:World) (t:RS) (x:CX) (c:GX) (d:Nat) (i:RI) :
    isCut (P.l_oex0 w t x c d) (uLoop P.aC P.aF) ((P.led w.params 1 {t with i:=t.i+1+1,ti:=(P.l_oex0 w t x c d).dt 12 0,ch:=(ch1 d),tc:=(P.l_oex0 w t x c d).dt 1 3,eF:=(P.l_oex0 w t x c d).ep 1,g:=(P.l_oex0 w t x c d).kt 1 3,tok:=t.tok++(ch1 d),tt:=(P.l_oex0 w t x c d).dt 1 1}).map some) (cAdd t.tok (ch1 d)++(cNl d++(cRd P (t.i+1+1) (c.tk+25) (c.tk+23) (ch1 d)++(cRd P (t.i+1) (c.tk+8) (c.tk+6) (S [92]))))) ∧
    (P.l_oex0 w t x c d).row.stk=(x.qx P (P.l_oex0 w t x c d).sp2).out ∧
    isRet ((P.l_oex0 w t x c d).rest (i.effE P w.params)) (.ok .next) ((P.led w.params 1 i.u true).map some) []:=by
  refine ⟨?_, ?_, ?_⟩ <;> kernel_rfl
noncomputable def N_oex1:Nat:=(zz121+zz122<<<2640+zz76<<<2750+2049<<<2890+zz0<<<2920+0x5401<<<2960)
noncomputable abbrev RD.l_oex1 (P:RD) (w:World) (t:RS) (x:CX) (c:GX) (d:Nat):Out:=P.run w tokLoop 1 t [S [92],ch1 d] x.out c N_oex1
theorem lx_oex1 (P:RD) (w:World) (t:RS) (x:CX) (c:GX) (d:Nat) (i:RI) :
    isCut (P.l_oex1 w t x c d) (uLoop P.aC P.aF) ((P.led w.params 1 {t with i:=t.i+1+1,ti:=(P.l_oex1 w t x c d).dt 12 0,ch:=(ch1 d),tc:=(P.l_oex1 w t x c d).dt 1 3,eF:=(P.l_oex1 w t x c d).ep 1,g:=(P.l_oex1 w t x c d).kt 1 3,tok:=t.tok++(ch1 d),tt:=(P.l_oex1 w t x c d).dt 1 1}).map some) (cAdd t.tok (ch1 d)++(cNl d++(cRd P (t.i+1+1) (c.tk+25) (c.tk+23) (ch1 d)++(cRd P (t.i+1) (c.tk+8) (c.tk+6) (S [92]))))) ∧
    (P.l_oex1 w t x c d).row.stk=(x.qx P (P.l_oex1 w t x c d).sp2).out ∧
    isRet ((P.l_oex1 w t x c d).rest (i.effE P w.params)) (.ok .next) ((P.led w.params 1 i.u true).map some) []:=by
  refine ⟨?_, ?_, ?_⟩ <;> kernel_rfl
noncomputable def N_onx0:Nat:=(zz121+zz123<<<2640+zz76<<<3130+2049<<<3270+zz0<<<3300+0x5401<<<3340)
noncomputable abbrev RD.l_onx0 (P:RD) (w:World) (t:RS) (x:CX) (c:GX):Out:=P.run w tokLoop 0 t [S [92],S [10]] x.out c N_onx0
theorem lx_onx0 (P:RD) (w:World) (t:RS) (x:CX) (c:GX) (i:RI) :
    isCut (P.l_onx0 w t x c) (uLoop P.aC P.aF) ((P.led w.params 1 {t with i:=t.i+1+1,ti:=(P.l_onx0 w t x c).dt 12 0,ch:=(S [10]),tc:=(P.l_onx0 w t x c).dt 1 3,eF:=(P.l_onx0 w t x c).ep 1,g:=(P.l_onx0 w t x c).kt 1 3,tok:=t.tok++(S [10]),tt:=(P.l_onx0 w t x c).dt 1 1,ln:=t.ln+1,tl:=(P.l_onx0 w t x c).dt 4 0}).map some) (cAdd t.tok (S [10])++(cRd P (t.i+1+1) (c.tk+25) (c.tk+23) (S [10])++(cRd P (t.i+1) (c.tk+8) (c.tk+6) (S [92])))) ∧
    (P.l_onx0 w t x c).row.stk=(x.qx P (P.l_onx0 w t x c).sp2).out ∧
    isRet ((P.l_onx0 w t x c).rest (i.effE P w.params)) (.ok .next) ((P.led w.params 1 i.u true).map some) []:=by
  refine ⟨?_, ?_, ?_⟩ <;> kernel_rfl
noncomputable def N_onx1:Nat:=(zz121+zz123<<<2640+zz76<<<3130+2049<<<3270+zz0<<<3300+0x5401<<<3340)
noncomputable abbrev RD.l_onx1 (P:RD) (w:World) (t:RS) (x:CX) (c:GX):Out:=P.run w tokLoop 1 t [S [92],S [10]] x.out c N_onx1
theorem lx_onx1 (P:RD) (w:World) (t:RS) (x:CX) (c:GX) (i:RI) :
    isCut (P.l_onx1 w t x c) (uLoop P.aC P.aF) ((P.led w.params 1 {t with i:=t.i+1+1,ti:=(P.l_onx1 w t x c).dt 12 0,ch:=(S [10]),tc:=(P.l_onx1 w t x c).dt 1 3,eF:=(P.l_onx1 w t x c).ep 1,g:=(P.l_onx1 w t x c).kt 1 3,tok:=t.tok++(S [10]),tt:=(P.l_onx1 w t x c).dt 1 1,ln:=t.ln+1,tl:=(P.l_onx1 w t x c).dt 4 0}).map some) (cAdd t.tok (S [10])++(cRd P (t.i+1+1) (c.tk+25) (c.tk+23) (S [10])++(cRd P (t.i+1) (c.tk+8) (c.tk+6) (S [92])))) ∧
    (P.l_onx1 w t x c).row.stk=(x.qx P (P.l_onx1 w t x c).sp2).out ∧
    isRet ((P.l_onx1 w t x c).rest (i.effE P w.params)) (.ok .next) ((P.led w.params 1 i.u true).map some) []:=by
  refine ⟨?_, ?_, ?_⟩ <;> kernel_rfl
noncomputable def N_qz:Nat:=(zz49+zz9<<<1200+0x20000000001<<<1230)
noncomputable abbrev RD.l_qz (P:RD) (w:World) (t:RS) (x:QX) (c:GX):Out:=P.run w qLoop 1 t [S [34]] x.out c N_qz
theorem lx_qz (P:RD) (w:World) (t:RS) (x:QX) (c:GX) :
    isRet (P.l_qz w t x c) (.ok (.ret (.str t.tok t.tt))) ((P.led w.params 1 {t with i:=t.i+1,ti:=(P.l_qz w t x c).dt 12 0,ch:=(S [34]),tc:=(P.l_qz w t x c).dt 1 3,eF:=(P.l_qz w t x c).ep 1,g:=(P.l_qz w t x c).kt 1 3}).map some) (cRd P (t.i+1) (c.tk+8) (c.tk+6) (S [34])):=by
  kernel_rfl
noncomputable def N_qp:Nat:=(zz0+0x701c0701c0500004010000000001000000000000403800000000380e000000000000c000000300401<<<40+zz11<<<380+0x80000001004010000e00800000010380e0380000001000100440003400034000340d0340b000000000f0000d0000d0000d0340d02c0c0340d03400034000340d000000000f0000d0000d0000d0340b000000000f03c00028090000902007<<<420+zz9<<<1200+zz50<<<1230+zz46<<<1280+zz63<<<1340)
noncomputable abbrev RD.l_qp (P:RD) (w:World) (t:RS) (x:QX) (c:GX) (d:Nat):Out:=P.run w qLoop 1 t [ch1 d] x.out c N_qp
theorem lx_qp (P:RD) (w:World) (t:RS) (x:QX) (c:GX) (d:Nat) :
    isAgain (P.l_qp w t x c d) (qLoop P.aC P.aF) ((P.led w.params 1 {t with i:=t.i+1,ti:=(P.l_qp w t x c d).dt 12 0,ch:=(ch1 d),tc:=(P.l_qp w t x c d).dt 1 3,eF:=(P.l_qp w t x c d).ep 1,g:=(P.l_qp w t x c d).kt 1 3,tok:=t.tok++(ch1 d),tt:=(P.l_qp w t x c d).dt 1 1}).map some) (cAdd t.tok (ch1 d)++(cIs d 92++(cIs d 34++(cSg d++(cRd P (t.i+1) (c.tk+8) (c.tk+6) (ch1 d)))))):=by
  kernel_rfl
noncomputable def N_ql:Nat:=(zz31+14<<<1100+zz62<<<1110+0x1004010000e<<<1480+zz9<<<1580+0x20080000000004020000000001<<<1610+zz63<<<1720)
noncomputable abbrev RD.l_ql (P:RD) (w:World) (t:RS) (x:QX) (c:GX):Out:=P.run w qLoop 1 t [S [10]] x.out c N_ql
theorem lx_ql (P:RD) (w:World) (t:RS) (x:QX) (c:GX) :
    isAgain (P.l_ql w t x c) (qLoop P.aC P.aF) ((P.led w.params 1 {t with i:=t.i+1,ti:=(P.l_ql w t x c).dt 12 0,ch:=(S [10]),tc:=(P.l_ql w t x c).dt 1 3,eF:=(P.l_ql w t x c).ep 1,g:=(P.l_ql w t x c).kt 1 3,tok:=t.tok++(S [10]),tt:=(P.l_ql w t x c).dt 1 1,ln:=t.ln+1,tl:=(P.l_ql w t x c).dt 4 0}).map some) (cAdd t.tok (S [10])++cRd P (t.i+1) (c.tk+8) (c.tk+6) (S [10])):=by
  kernel_rfl
noncomputable def N_qe:Nat:=(zz49+zz9<<<1200+zz77<<<1230+zz122<<<2450+zz63<<<2560)
noncomputable abbrev RD.l_qe (P:RD) (w:World) (t:RS) (x:QX) (c:GX) (d:Nat):Out:=P.run w qLoop 1 t [S [92],ch1 d] x.out c N_qe
theorem lx_qe (P:RD) (w:World) (t:RS) (x:QX) (c:GX) (d:Nat) :
    isAgain (P.l_qe w t x c d) (qLoop P.aC P.aF) ((P.led w.params 1 {t with i:=t.i+1+1,ti:=(P.l_qe w t x c d).dt 12 0,ch:=(ch1 d),tc:=(P.l_qe w t x c d).dt 1 3,eF:=(P.l_qe w t x c d).ep 1,g:=(P.l_qe w t x c d).kt 1 3,tok:=t.tok++(ch1 d),tt:=(P.l_qe w t x c d).dt 1 1}).map some) (cAdd t.tok (ch1 d)++(cNl d++(cRd P (t.i+1+1) (c.tk+24) (c.tk+22) (ch1 d)++(cRd P (t.i+1) (c.tk+8) (c.tk+6) (S [92]))))):=by
  kernel_rfl
noncomputable def N_qn:Nat:=(zz49+zz9<<<1200+zz77<<<1230+zz123<<<2450+zz63<<<2940)
noncomputable abbrev RD.l_qn (P:RD) (w:World) (t:RS) (x:QX) (c:GX):Out:=P.run w qLoop 1 t [S [92],S [10]] x.out c N_qn
theorem lx_qn (P:RD) (w:World) (t:RS) (x:QX) (c:GX) :
    isAgain (P.l_qn w t x c) (qLoop P.aC P.aF) ((P.led w.params 1 {t with i:=t.i+1+1,ti:=(P.l_qn w t x c).dt 12 0,ch:=(S [10]),tc:=(P.l_qn w t x c).dt 1 3,eF:=(P.l_qn w t x c).ep 1,g:=(P.l_qn w t x c).kt 1 3,tok:=t.tok++(S [10]),tt:=(P.l_qn w t x c).dt 1 1,ln:=t.ln+1,tl:=(P.l_qn w t x c).dt 4 0}).map some) (cAdd t.tok (S [10])++(cRd P (t.i+1+1) (c.tk+24) (c.tk+22) (S [10])++(cRd P (t.i+1) (c.tk+8) (c.tk+6) (S [92])))):=by
  kernel_rfl
noncomputable def N_uw:Nat:=(zz108+2049<<<1400)
noncomputable abbrev RD.l_uw (P:RD) (w:World) (t:RS) (x:QX) (c:GX) (d:Nat):Out:=P.run w uLoop 1 t [ch1 d] x.out c N_uw
theorem lx_uw (P:RD) (w:World) (t:RS) (x:QX) (c:GX) (d:Nat) :
    isRet (P.l_uw w t x c d) (.ok (.ret (.str t.tok t.tt))) ((P.led w.params 1 {t with i:=t.i+1,ti:=(P.l_uw w t x c d).dt 12 0,ch:=(ch1 d),tc:=(P.l_uw w t x c d).dt 1 3,eF:=(P.l_uw w t x c d).ep 1,g:=(P.l_uw w t x c d).kt 1 3}).map some) (cWs d true++(cSg d++(cRd P (t.i+1) (c.tk+8) (c.tk+6) (ch1 d)))):=by
  kernel_rfl
noncomputable def N_ul:Nat:=(zz31+14<<<1100+zz62<<<1110+0x1004010000e<<<1480+zz55<<<1580)
noncomputable abbrev RD.l_ul (P:RD) (w:World) (t:RS) (x:QX) (c:GX):Out:=P.run w uLoop 1 t [S [10]] x.out c N_ul
theorem lx_ul (P:RD) (w:World) (t:RS) (x:QX) (c:GX) :
    isRet (P.l_ul w t x c) (.ok (.ret (.str t.tok t.tt))) ((P.led w.params 1 {t with i:=t.i+1,ti:=(P.l_ul w t x c).dt 12 0,ch:=(S [10]),tc:=(P.l_ul w t x c).dt 1 3,eF:=(P.l_ul w t x c).ep 1,g:=(P.l_ul w t x c).kt 1 3,ln:=t.ln+1,tl:=(P.l_ul w t x c).dt 4 0}).map some) (cRd P (t.i+1) (c.tk+8) (c.tk+6) (S [10])):=by
  kernel_rfl
noncomputable def N_up:Nat:=(zz108+2050<<<1400+zz46<<<1420+zz63<<<1480)
noncomputable abbrev RD.l_up (P:RD) (w:World) (t:RS) (x:QX) (c:GX) (d:Nat):Out:=P.run w uLoop 1 t [ch1 d] x.out c N_up
theorem lx_up (P:RD) (w:World) (t:RS) (x:QX) (c:GX) (d:Nat) :
    isAgain (P.l_up w t x c d) (uLoop P.aC P.aF) ((P.led w.params 1 {t with i:=t.i+1,ti:=(P.l_up w t x c d).dt 12 0,ch:=(ch1 d),tc:=(P.l_up w t x c d).dt 1 3,eF:=(P.l_up w t x c d).ep 1,g:=(P.l_up w t x c d).kt 1 3,tok:=t.tok++(ch1 d),tt:=(P.l_up w t x c d).dt 1 1}).map some) (cAdd t.tok (ch1 d)++(cIs d 92++(cWs d false++(cSg d++(cRd P (t.i+1) (c.tk+8) (c.tk+6) (ch1 d)))))):=by
  kernel_rfl
noncomputable def N_ue:Nat:=(zz61+zz56<<<1420+zz122<<<2590+zz63<<<2700)
noncomputable abbrev RD.l_ue (P:RD) (w:World) (t:RS) (x:QX) (c:GX) (d:Nat):Out:=P.run w uLoop 1 t [S [92],ch1 d] x.out c N_ue
theorem lx_ue (P:RD) (w:World) (t:RS) (x:QX) (c:GX) (d:Nat) :
    isAgain (P.l_ue w t x c d) (uLoop P.aC P.aF) ((P.led w.params 1 {t with i:=t.i+1+1,ti:=(P.l_ue w t x c d).dt 12 0,ch:=(ch1 d),tc:=(P.l_ue w t x c d).dt 1 3,eF:=(P.l_ue w t x c d).ep 1,g:=(P.l_ue w t x c d).kt 1 3,tok:=t.tok++(ch1 d),tt:=(P.l_ue w t x c d).dt 1 1}).map some) (cAdd t.tok (ch1 d)++(cNl d++(cRd P (t.i+1+1) (c.tk+24) (c.tk+22) (ch1 d)++(cRd P (t.i+1) (c.tk+8) (c.tk+6) (S [92]))))):=by
  kernel_rfl
noncomputable def N_un:Nat:=(zz61+zz56<<<1420+zz123<<<2590+zz63<<<3080)
noncomputable abbrev RD.l_un (P:RD) (w:World) (t:RS) (x:QX) (c:GX):Out:=P.run w uLoop 1 t [S [92],S [10]] x.out c N_un
theorem lx_un (P:RD) (w:World) (t:RS) (x:QX) (c:GX) :
    isAgain (P.l_un w t x c) (uLoop P.aC P.aF) ((P.led w.params 1 {t with i:=t.i+1+1,ti:=(P.l_un w t x c).dt 12 0,ch:=(S [10]),tc:=(P.l_un w t x c).dt 1 3,eF:=(P.l_un w t x c).ep 1,g:=(P.l_un w t x c).kt 1 3,tok:=t.tok++(S [10]),tt:=(P.l_un w t x c).dt 1 1,ln:=t.ln+1,tl:=(P.l_un w t x c).dt 4 0}).map some) (cAdd t.tok (S [10])++(cRd P (t.i+1+1) (c.tk+24) (c.tk+22) (S [10])++(cRd P (t.i+1) (c.tk+8) (c.tk+6) (S [92])))):=by
  kernel_rfl
end Mine
end
section
open PySem PySem.W PySem.W.X PySem.Calls PyProof.Rows PySem.SeqAt
namespace Mine
noncomputable def inHd (hd:Str) (d:Nat):Bool:= !(PySem.W.Fast.tw15715988071286343644 hd (ch1 d) 0 hd.length 1).isEmpty
noncomputable def sgS (b:Bool) (d:Nat):Str:=match b with | true=>S [92]++ch1 d | false=>ch1 d
noncomputable def sgC1 (hd:Str) (b:Bool) (d:Nat):List Prop:=match b with | true=>[(S [92]).length+(ch1 d).length≤16777216,inHd hd d=true] | false=>[inHd hd d=false]
noncomputable def sgC (hd:Str):List (Bool × Nat)→List Prop→List Prop
  | [],acc=>acc
  | (b,d) :: l,acc=>sgC hd l (sgC1 hd b d++acc)
structure SG where
  it:Addr
  acc:Addr
  Z:Addr
  L:Addr
  H:Addr
  hd:Str
  th:Nat
  tx:Nat
noncomputable def SG.led (g:SG) (w:Params) (x:Str):Led:=[(g.it,ascO x g.tx 0),(g.acc,listO [] 0),(g.Z,dictO w [] 0),(g.H,cellO (.str g.hd g.th))]
structure SX where
  t:PySem.Expr
  it:Value
  b:List Stmt
  o:List Stmt
  e:PySem.Env
  p:Pos
  b2:List Stmt
  e2:PySem.Env
  p2:Pos
  b3:List Stmt
  e3:PySem.Env
  p3:Pos
  p4:Pos
noncomputable def SX.out (x:SX):Stk:=(.forLoop x.t x.it x.b x.o x.e,x.p) :: (.func x.b2 x.e2,x.p2) :: outLaw x.b3 x.e3 x.p3 x.p4
noncomputable def SG.run (g:SG) (w:World) (W:Str) (x:SX) (c:GX) (N:Nat):Out:=
  (sg w x.out [0,1,2,3] {} (g.led w.params W) c.g c.base c.tk c.gb (signLoop g.it g.acc g.Z g.L g.H) c.p).run 800 N
noncomputable def Out.lst (o:Out) (i:Nat) (l:List Str):Obj:=listO (l.zipIdx.map fun x => .str x.1 (o.dt i x.2)) (o.ep i)
noncomputable def N_sgn1:Nat:=(zz4+0x8020080000800000000000700c01<<<160+zz0<<<290+0x60040100401<<<330)
theorem sg_n1 (g:SG) (w:World) (x:SX) (c:GX) (d0:Nat) :
    isRet (g.run w (⟨#[d0+1]⟩:Str) x c N_sgn1) (.ok .next) ([(g.it,(g.run w (⟨#[d0+1]⟩:Str) x c N_sgn1).ob 0),(g.acc,(g.run w (⟨#[d0+1]⟩:Str) x c N_sgn1).lst 1 [sgS true d0]),(g.Z,dictO w.params [(k_sign,(g.run w (⟨#[d0+1]⟩:Str) x c N_sgn1).kt 2 0, .str (ch1 d0) ((g.run w (⟨#[d0+1]⟩:Str) x c N_sgn1).dt 2 0))] ((g.run w (⟨#[d0+1]⟩:Str) x c N_sgn1).ep 2)),(g.H,cellO (.str g.hd g.th))].map some) (sgC g.hd [(true,d0)] []):=by
  kernel_rfl
noncomputable def N_sgn0:Nat:=(zz4+zz60<<<160)
theorem sg_n0 (g:SG) (w:World) (x:SX) (c:GX) (d0:Nat) :
    isRet (g.run w (⟨#[d0+1]⟩:Str) x c N_sgn0) (.ok .next) ([(g.it,(g.run w (⟨#[d0+1]⟩:Str) x c N_sgn0).ob 0),(g.acc,(g.run w (⟨#[d0+1]⟩:Str) x c N_sgn0).lst 1 [sgS false d0]),(g.Z,dictO w.params [(k_sign,(g.run w (⟨#[d0+1]⟩:Str) x c N_sgn0).kt 2 0, .str (ch1 d0) ((g.run w (⟨#[d0+1]⟩:Str) x c N_sgn0).dt 2 0))] ((g.run w (⟨#[d0+1]⟩:Str) x c N_sgn0).ep 2)),(g.H,cellO (.str g.hd g.th))].map some) (sgC g.hd [(false,d0)] []):=by
  kernel_rfl
noncomputable def N_sgra1:Nat:=(zz74+zz43<<<1160+zz43<<<1450+zz43<<<1740+zz8<<<2030+zz43<<<2280+zz60<<<2570)
theorem sg_ra1 (g:SG) (w:World) (x:SX) (c:GX) (d0 d1 d2 d3 d4 d5 d6 d7 d8 d9:Nat) :
    isRet (g.run w (⟨#[d0+1,d1+1,d2+1,d3+1,d4+1,d5+1,d6+1,d7+1,d8+1,d9+1]⟩:Str) x c N_sgra1) (.ok .next) ([(g.it,(g.run w (⟨#[d0+1,d1+1,d2+1,d3+1,d4+1,d5+1,d6+1,d7+1,d8+1,d9+1]⟩:Str) x c N_sgra1).ob 0),(g.acc,(g.run w (⟨#[d0+1,d1+1,d2+1,d3+1,d4+1,d5+1,d6+1,d7+1,d8+1,d9+1]⟩:Str) x c N_sgra1).lst 1 [sgS false d0,sgS false d1,sgS false d2,sgS false d3,sgS true d4,sgS true d5,sgS true d6,sgS false d7,sgS true d8,sgS false d9]),(g.Z,dictO w.params [(k_sign,(g.run w (⟨#[d0+1,d1+1,d2+1,d3+1,d4+1,d5+1,d6+1,d7+1,d8+1,d9+1]⟩:Str) x c N_sgra1).kt 2 0, .str (ch1 d9) ((g.run w (⟨#[d0+1,d1+1,d2+1,d3+1,d4+1,d5+1,d6+1,d7+1,d8+1,d9+1]⟩:Str) x c N_sgra1).dt 2 0))] ((g.run w (⟨#[d0+1,d1+1,d2+1,d3+1,d4+1,d5+1,d6+1,d7+1,d8+1,d9+1]⟩:Str) x c N_sgra1).ep 2)),(g.H,cellO (.str g.hd g.th))].map some) (sgC g.hd [(false,d0),(false,d1),(false,d2),(false,d3),(true,d4),(true,d5),(true,d6),(false,d7),(true,d8),(false,d9)] []):=by
  kernel_rfl
noncomputable def N_sgra0:Nat:=(zz74+zz54<<<1160+zz8<<<2160+zz60<<<2410)
theorem sg_ra0 (g:SG) (w:World) (x:SX) (c:GX) (d0 d1 d2 d3 d4 d5 d6 d7 d8 d9:Nat) :
    isRet (g.run w (⟨#[d0+1,d1+1,d2+1,d3+1,d4+1,d5+1,d6+1,d7+1,d8+1,d9+1]⟩:Str) x c N_sgra0) (.ok .next) ([(g.it,(g.run w (⟨#[d0+1,d1+1,d2+1,d3+1,d4+1,d5+1,d6+1,d7+1,d8+1,d9+1]⟩:Str) x c N_sgra0).ob 0),(g.acc,(g.run w (⟨#[d0+1,d1+1,d2+1,d3+1,d4+1,d5+1,d6+1,d7+1,d8+1,d9+1]⟩:Str) x c N_sgra0).lst 1 [sgS false d0,sgS false d1,sgS false d2,sgS false d3,sgS false d4,sgS false d5,sgS false d6,sgS false d7,sgS false d8,sgS false d9]),(g.Z,dictO w.params [(k_sign,(g.run w (⟨#[d0+1,d1+1,d2+1,d3+1,d4+1,d5+1,d6+1,d7+1,d8+1,d9+1]⟩:Str) x c N_sgra0).kt 2 0, .str (ch1 d9) ((g.run w (⟨#[d0+1,d1+1,d2+1,d3+1,d4+1,d5+1,d6+1,d7+1,d8+1,d9+1]⟩:Str) x c N_sgra0).dt 2 0))] ((g.run w (⟨#[d0+1,d1+1,d2+1,d3+1,d4+1,d5+1,d6+1,d7+1,d8+1,d9+1]⟩:Str) x c N_sgra0).ep 2)),(g.H,cellO (.str g.hd g.th))].map some) (sgC g.hd [(false,d0),(false,d1),(false,d2),(false,d3),(false,d4),(false,d5),(false,d6),(false,d7),(false,d8),(false,d9)] []):=by
  kernel_rfl
noncomputable def N_sgrb1:Nat:=(zz74+zz43<<<1160+zz43<<<1450+zz43<<<1740+zz25<<<2030+zz43<<<2530+zz60<<<2820)
theorem sg_rb1 (g:SG) (w:World) (x:SX) (c:GX) (d0 d1 d2 d3 d4 d5 d6 d7 d8 d9 d10:Nat) :
    isRet (g.run w (⟨#[d0+1,d1+1,d2+1,d3+1,d4+1,d5+1,d6+1,d7+1,d8+1,d9+1,d10+1]⟩:Str) x c N_sgrb1) (.ok .next) ([(g.it,(g.run w (⟨#[d0+1,d1+1,d2+1,d3+1,d4+1,d5+1,d6+1,d7+1,d8+1,d9+1,d10+1]⟩:Str) x c N_sgrb1).ob 0),(g.acc,(g.run w (⟨#[d0+1,d1+1,d2+1,d3+1,d4+1,d5+1,d6+1,d7+1,d8+1,d9+1,d10+1]⟩:Str) x c N_sgrb1).lst 1 [sgS false d0,sgS false d1,sgS false d2,sgS false d3,sgS true d4,sgS true d5,sgS true d6,sgS false d7,sgS false d8,sgS true d9,sgS false d10]),(g.Z,dictO w.params [(k_sign,(g.run w (⟨#[d0+1,d1+1,d2+1,d3+1,d4+1,d5+1,d6+1,d7+1,d8+1,d9+1,d10+1]⟩:Str) x c N_sgrb1).kt 2 0, .str (ch1 d10) ((g.run w (⟨#[d0+1,d1+1,d2+1,d3+1,d4+1,d5+1,d6+1,d7+1,d8+1,d9+1,d10+1]⟩:Str) x c N_sgrb1).dt 2 0))] ((g.run w (⟨#[d0+1,d1+1,d2+1,d3+1,d4+1,d5+1,d6+1,d7+1,d8+1,d9+1,d10+1]⟩:Str) x c N_sgrb1).ep 2)),(g.H,cellO (.str g.hd g.th))].map some) (sgC g.hd [(false,d0),(false,d1),(false,d2),(false,d3),(true,d4),(true,d5),(true,d6),(false,d7),(false,d8),(true,d9),(false,d10)] []):=by
  kernel_rfl
noncomputable def N_sgrb0:Nat:=(zz74+zz54<<<1160+zz25<<<2160+zz60<<<2660)
theorem sg_rb0 (g:SG) (w:World) (x:SX) (c:GX) (d0 d1 d2 d3 d4 d5 d6 d7 d8 d9 d10:Nat) :
    isRet (g.run w (⟨#[d0+1,d1+1,d2+1,d3+1,d4+1,d5+1,d6+1,d7+1,d8+1,d9+1,d10+1]⟩:Str) x c N_sgrb0) (.ok .next) ([(g.it,(g.run w (⟨#[d0+1,d1+1,d2+1,d3+1,d4+1,d5+1,d6+1,d7+1,d8+1,d9+1,d10+1]⟩:Str) x c N_sgrb0).ob 0),(g.acc,(g.run w (⟨#[d0+1,d1+1,d2+1,d3+1,d4+1,d5+1,d6+1,d7+1,d8+1,d9+1,d10+1]⟩:Str) x c N_sgrb0).lst 1 [sgS false d0,sgS false d1,sgS false d2,sgS false d3,sgS false d4,sgS false d5,sgS false d6,sgS false d7,sgS false d8,sgS false d9,sgS false d10]),(g.Z,dictO w.params [(k_sign,(g.run w (⟨#[d0+1,d1+1,d2+1,d3+1,d4+1,d5+1,d6+1,d7+1,d8+1,d9+1,d10+1]⟩:Str) x c N_sgrb0).kt 2 0, .str (ch1 d10) ((g.run w (⟨#[d0+1,d1+1,d2+1,d3+1,d4+1,d5+1,d6+1,d7+1,d8+1,d9+1,d10+1]⟩:Str) x c N_sgrb0).dt 2 0))] ((g.run w (⟨#[d0+1,d1+1,d2+1,d3+1,d4+1,d5+1,d6+1,d7+1,d8+1,d9+1,d10+1]⟩:Str) x c N_sgrb0).ep 2)),(g.H,cellO (.str g.hd g.th))].map some) (sgC g.hd [(false,d0),(false,d1),(false,d2),(false,d3),(false,d4),(false,d5),(false,d6),(false,d7),(false,d8),(false,d9),(false,d10)] []):=by
  kernel_rfl
noncomputable def N_sgrc1:Nat:=(zz74+zz43<<<1160+zz43<<<1450+zz43<<<1740+zz25<<<2030+zz8<<<2530+zz43<<<2780+zz60<<<3070)
theorem sg_rc1 (g:SG) (w:World) (x:SX) (c:GX) (d0 d1 d2 d3 d4 d5 d6 d7 d8 d9 d10 d11:Nat) :
    isRet (g.run w (⟨#[d0+1,d1+1,d2+1,d3+1,d4+1,d5+1,d6+1,d7+1,d8+1,d9+1,d10+1,d11+1]⟩:Str) x c N_sgrc1) (.ok .next) ([(g.it,(g.run w (⟨#[d0+1,d1+1,d2+1,d3+1,d4+1,d5+1,d6+1,d7+1,d8+1,d9+1,d10+1,d11+1]⟩:Str) x c N_sgrc1).ob 0),(g.acc,(g.run w (⟨#[d0+1,d1+1,d2+1,d3+1,d4+1,d5+1,d6+1,d7+1,d8+1,d9+1,d10+1,d11+1]⟩:Str) x c N_sgrc1).lst 1 [sgS false d0,sgS false d1,sgS false d2,sgS false d3,sgS true d4,sgS true d5,sgS true d6,sgS false d7,sgS false d8,sgS false d9,sgS true d10,sgS false d11]),(g.Z,dictO w.params [(k_sign,(g.run w (⟨#[d0+1,d1+1,d2+1,d3+1,d4+1,d5+1,d6+1,d7+1,d8+1,d9+1,d10+1,d11+1]⟩:Str) x c N_sgrc1).kt 2 0, .str (ch1 d11) ((g.run w (⟨#[d0+1,d1+1,d2+1,d3+1,d4+1,d5+1,d6+1,d7+1,d8+1,d9+1,d10+1,d11+1]⟩:Str) x c N_sgrc1).dt 2 0))] ((g.run w (⟨#[d0+1,d1+1,d2+1,d3+1,d4+1,d5+1,d6+1,d7+1,d8+1,d9+1,d10+1,d11+1]⟩:Str) x c N_sgrc1).ep 2)),(g.H,cellO (.str g.hd g.th))].map some) (sgC g.hd [(false,d0),(false,d1),(false,d2),(false,d3),(true,d4),(true,d5),(true,d6),(false,d7),(false,d8),(false,d9),(true,d10),(false,d11)] []):=by
  kernel_rfl
noncomputable def N_sgrc0:Nat:=(zz74+zz54<<<1160+zz25<<<2160+zz8<<<2660+zz60<<<2910)
theorem sg_rc0 (g:SG) (w:World) (x:SX) (c:GX) (d0 d1 d2 d3 d4 d5 d6 d7 d8 d9 d10 d11:Nat) :
    isRet (g.run w (⟨#[d0+1,d1+1,d2+1,d3+1,d4+1,d5+1,d6+1,d7+1,d8+1,d9+1,d10+1,d11+1]⟩:Str) x c N_sgrc0) (.ok .next) ([(g.it,(g.run w (⟨#[d0+1,d1+1,d2+1,d3+1,d4+1,d5+1,d6+1,d7+1,d8+1,d9+1,d10+1,d11+1]⟩:Str) x c N_sgrc0).ob 0),(g.acc,(g.run w (⟨#[d0+1,d1+1,d2+1,d3+1,d4+1,d5+1,d6+1,d7+1,d8+1,d9+1,d10+1,d11+1]⟩:Str) x c N_sgrc0).lst 1 [sgS false d0,sgS false d1,sgS false d2,sgS false d3,sgS false d4,sgS false d5,sgS false d6,sgS false d7,sgS false d8,sgS false d9,sgS false d10,sgS false d11]),(g.Z,dictO w.params [(k_sign,(g.run w (⟨#[d0+1,d1+1,d2+1,d3+1,d4+1,d5+1,d6+1,d7+1,d8+1,d9+1,d10+1,d11+1]⟩:Str) x c N_sgrc0).kt 2 0, .str (ch1 d11) ((g.run w (⟨#[d0+1,d1+1,d2+1,d3+1,d4+1,d5+1,d6+1,d7+1,d8+1,d9+1,d10+1,d11+1]⟩:Str) x c N_sgrc0).dt 2 0))] ((g.run w (⟨#[d0+1,d1+1,d2+1,d3+1,d4+1,d5+1,d6+1,d7+1,d8+1,d9+1,d10+1,d11+1]⟩:Str) x c N_sgrc0).ep 2)),(g.H,cellO (.str g.hd g.th))].map some) (sgC g.hd [(false,d0),(false,d1),(false,d2),(false,d3),(false,d4),(false,d5),(false,d6),(false,d7),(false,d8),(false,d9),(false,d10),(false,d11)] []):=by
  kernel_rfl
end Mine
end
section
open PySem PySem.W PySem.W.X PySem.Calls PyProof.Rows PySem.SeqAt
namespace Mine
noncomputable def k_words:Str:=S [119,111,114,100,115]
noncomputable def k_numbers:Str:=S [110,117,109,98,101,114,115]
noncomputable def k_sheet:Str:=S [115,104,101,101,116]
noncomputable def k_shut:Str:=S [115,104,117,116]
noncomputable def k_quoted:Str:=S [113,117,111,116,101,100]
noncomputable def k_whi:Str:=S [119,104,105,116,101]
noncomputable def k_word:Str:=S [119,111,114,100]
structure HP where
  aI:Addr
  aF:Addr
  aH:Addr
  aW:Addr
  aN:Addr
  aS:Addr
  aD:Addr
  ws:Nat→Str × Nat
  eW:Nat
  x:Nat→Int
  u:Nat→Nat
  eN:Nat
  f:Nat→Nat
  k0:Nat
  tz:Nat
  eD:Nat
structure HS where
  text:Str
  to:Nat
  shut:Bool
  xs:List Value
  eS:Nat
  eF:Nat
  pv:Int
  tp:Nat
  q:Bool
  wh:Str
  tw:Nat
  wd:Str
  td:Nat
  g:Nat→Nat
  hid:Option Value
noncomputable def HP.frame (P:HP) (w:Params) (sh:Nat) (t:HS) (b:Bool):Obj:=frameO w ([(k_words,P.f 0, .ref P.aW),(k_numbers,P.f 1, .ref P.aN),(k_sheet,P.f 2, .ref P.aS),(k_text,P.f 3, .str t.text t.to),(k_shut,P.f 4, .bool b)] ++
  (match sh with | 0=>[] | _=>[(k_place,t.g 0, .int t.pv t.tp),(k_quoted,t.g 1, .bool t.q),(k_whi,t.g 2, .str t.wh t.tw),(k_word,t.g 3, .str t.wd t.td)])) t.eF
noncomputable def HP.wsL (P:HP):List Value:=[.str (P.ws 0).1 (P.ws 0).2, .str (P.ws 1).1 (P.ws 1).2, .str (P.ws 2).1 (P.ws 2).2, .str (P.ws 3).1 (P.ws 3).2, .str (P.ws 4).1 (P.ws 4).2, .str (P.ws 5).1 (P.ws 5).2, .str (P.ws 6).1 (P.ws 6).2, .str (P.ws 7).1 (P.ws 7).2]
noncomputable def HP.nsL (P:HP):List Value:=[.int (P.x 0) (P.u 0), .int (P.x 1) (P.u 1), .int (P.x 2) (P.u 2), .int (P.x 3) (P.u 3)]
noncomputable def HP.led (P:HP) (w:Params) (sh:Nat) (t:HS) (b:Bool) (v left:Int):Led:=
  [(P.aI,ritO v left),(P.aF,P.frame w sh t b),(P.aH,⟨.type "cell", none, .cell t.hid, #[]⟩),(P.aW,listO P.wsL P.eW),(P.aN,listO P.nsL P.eN),(P.aS,accO P.aD t.xs t.eS),(P.aD,sizeO w 0 P.k0 P.tz P.eD)]
end Mine
end
section
open PySem PySem.W PySem.W.X PySem.Calls PyProof.Rows PySem.SeqAt
namespace Mine
noncomputable def lawD:FD:=defAt 19 none
noncomputable def sLaw:Str:=S [108,97,119,46,60,108,111,99,97,108,115,62,46]
noncomputable def k_way:Str:=S [119,97,121]
noncomputable def k_orders:Str:=S [111,114,100,101,114,115]
noncomputable def k_reader:Str:=S [114,101,97,100,101,114]
noncomputable def k_name:Str:=S [110,97,109,101]
noncomputable def k_port:Str:=S [112,111,114,116]
noncomputable def k_number:Str:=S [110,117,109,98,101,114]
noncomputable def k_pairs:Str:=S [112,97,105,114,115]
noncomputable def k_left:Str:=S [108,101,102,116]
noncomputable def patch (s:Scope):Scope:={s with names:=s.names.map fun x=>(x.1,match x.2 with | .free => .cell | k=>k)}
noncomputable def lawCells (F:Addr):List (Str × Addr):=[(k_way,F+8),(k_pile,F+7),(k_orders,F+6),(k_told,F+5),(k_reader,F+4),(k_words,F+3),(k_numbers,F+2),(k_names,F+1)]
noncomputable def lawEnv (F:Addr):PySem.Env:={fnEnv lawD F sLaw 235 (.ref 234) with cells:=lawCells F}
noncomputable def compEnv (c:CP) (Z F:Addr) (cells:List (Str × Addr)):PySem.Env:={scope:=patch c.sc,locals:=Z,globals:=3,cells,qual:=sLaw,func:=none,code:= .ref 234,frame:=some F,builtins:=0}
noncomputable def testOf:Option Stmt→PySem.Expr
  | some (.If e _ _ _)=>e
  | _=>default
noncomputable def orAt:PySem.Expr→Nat→PySem.Expr
  | .BoolOp _ vs _,i=>vs.getD i default
  | e,_=>e
noncomputable def lhsCmp:PySem.Expr→PySem.Expr
  | .Compare l _ _ _=>l
  | _=>default
noncomputable def rhsCmp:PySem.Expr→PySem.Expr
  | .Compare _ _ (r :: _) _=>r
  | _=>default
noncomputable def tokC:CP:=compIn (lhsCmp (orAt (testOf lawD.b[5]?) 0))
noncomputable def pairC:CP:=compIn (rhsOf lawD.b[6]?)
noncomputable def leftC:CP:=compIn (rhsOf lawD.b[13]?)
noncomputable def ringC:CP:=compIn (rhsCmp (rhsOf lawD.b[15]?))
noncomputable def cStart (c:CP) (it acc Z F:Addr) (cells:List (Str × Addr)):Code:= .compStart c.expr 0 (.ref it) (.ref acc) (compEnv c Z F cells)
noncomputable def cLoop (c:CP) (it acc Z F:Addr) (cells:List (Str × Addr)):Code:= .compLoop c.expr 0 (.ref it) (.ref acc) (compEnv c Z F cells)
noncomputable def tokCells (F:Addr):List (Str × Addr):=[(k_reader,F+4)]
noncomputable def pairCells (F:Addr):List (Str × Addr):=[(k_words,F+3)]
noncomputable def leftCells (F:Addr):List (Str × Addr):=[(k_told,F+5),(k_pile,F+7),(k_orders,F+6),(k_names,F+1)]
noncomputable def ringCells (F:Addr):List (Str × Addr):=[(k_way,F+8),(k_told,F+5),(k_names,F+1)]
noncomputable def zO (w:Params) (k:Str) (sh:Nat) (a:Nat) (v:Value) (n:Nat):Obj:=dictO w (match sh with | 0=>[] | _=>[(k,a,v)]) n
end Mine
end
section
open PySem PySem.W PySem.W.X PySem.Calls PyProof.Rows PySem.SeqAt
namespace Mine
noncomputable def numD:FD:=defAt 13 none
noncomputable def numFor:FL:=forOf numD.b[1]?
noncomputable def sNum:Str:=S [95,108,97,119,95,110,117,109,98,101,114,115,46,60,108,111,99,97,108,115,62,46]
noncomputable def numEnv (L:Addr):PySem.Env:=fnEnv numD L sNum 203 (.ref 202)
noncomputable def numLoop (it L:Addr):Code:= .forLoop numFor.t (.ref it) numFor.b numFor.o (numEnv L)
noncomputable def k_script:Str:=S [115,99,114,105,112,116]
noncomputable def k_nums:Str:=S [110,117,109,98,101,114,115]
structure NP where
  aI:Addr
  aF:Addr
  aS:Addr
  aX:Addr
  xs:List Value
  eS:Nat
  f:Nat→Nat
structure NS where
  x0:Int
  x1:Int
  x2:Int
  x3:Int
  t0:Nat
  t1:Nat
  t2:Nat
  t3:Nat
  eX:Nat
  eF:Nat
  pv:Int
  tp:Nat
  g:Nat
noncomputable def NP.frame (P:NP) (w:Params) (sh:Nat) (t:NS):Obj:=frameO w ([(k_script,P.f 0, .ref P.aS),(k_nums,P.f 1, .ref P.aX)]++(match sh with | 0=>[] | _=>[(k_place,t.g, .int t.pv t.tp)])) t.eF
noncomputable def NS.ints (t:NS):Obj:=intsO [(t.x0,t.t0),(t.x1,t.t1),(t.x2,t.t2),(t.x3,t.t3)] t.eX
noncomputable def NP.led (P:NP) (w:Params) (sh:Nat) (t:NS) (v left:Int):Led:=[(P.aI,ritO v left),(P.aF,P.frame w sh t),(P.aS,listO P.xs P.eS),(P.aX,t.ints)]
end Mine
end
section
open PySem PySem.W PySem.W.X PySem.Calls PyProof.Rows PySem.SeqAt
namespace Mine
structure LX where
  b:List Stmt
  e:PySem.Env
  p3:Pos
  p4:Pos
noncomputable def LX.out (x:LX):Stk:=outLaw x.b x.e x.p3 x.p4
structure MX where
  b2:List Stmt
  e2:PySem.Env
  p2:Pos
  x:LX
noncomputable def MX.out (m:MX):Stk:=(.func m.b2 m.e2,m.p2) :: m.x.out
noncomputable def NP.run (P:NP) (w:World) (sh:Nat) (t:NS) (v left:Int) (h sv:Int) (st:Nat) (m:MX) (c:GX) (N:Nat):Out:=
  (sg w m.out [0,1,2,3] {exs:=[[]],zs:=[h],vs:=[.int sv st]} (P.led w.params sh t v left) c.g c.base c.tk c.gb (numLoop P.aI P.aF) c.p).run 200 N
noncomputable def N_nm00:Nat:=(zz38+zz2<<<130+0x3010030000300c030080200004000040000401001<<<190+0x101004010000100001004<<<440)
theorem nm00 (P:NP) (w:World) (t:NS) (v:Int) (r:Nat) (sv:Int) (st:Nat) (m:MX) (c:GX) :
    isAgain (P.run w 0 t v (Int.ofNat (r+1)) 0 sv st m c N_nm00) (numLoop P.aI P.aF) ((P.led w.params 1 {t with x0:=t.x0+Int.fmod sv 61,t0:=(P.run w 0 t v (Int.ofNat (r+1)) 0 sv st m c N_nm00).dt 3 0,pv:=v,tp:=(P.run w 0 t v (Int.ofNat (r+1)) 0 sv st m c N_nm00).dt 1 2,g:=(P.run w 0 t v (Int.ofNat (r+1)) 0 sv st m c N_nm00).kt 1 2,eF:=(P.run w 0 t v (Int.ofNat (r+1)) 0 sv st m c N_nm00).ep 1} (v+1) (Int.ofNat (r+1) - 1)).map some) (cItem P.xs v (.int sv st)++[Int.fmod v 4=0]):=by
  kernel_rfl
noncomputable def N_nm10:Nat:=(zz38+zz2<<<130+0x3010030000300c030080200004000040000401001<<<190+0x101004010000100001004<<<440)
theorem nm10 (P:NP) (w:World) (t:NS) (v:Int) (r:Nat) (sv:Int) (st:Nat) (m:MX) (c:GX) :
    isAgain (P.run w 0 t v (Int.ofNat (r+1)) 1 sv st m c N_nm10) (numLoop P.aI P.aF) ((P.led w.params 1 {t with x1:=t.x1+Int.fmod sv 61,t1:=(P.run w 0 t v (Int.ofNat (r+1)) 1 sv st m c N_nm10).dt 3 1,pv:=v,tp:=(P.run w 0 t v (Int.ofNat (r+1)) 1 sv st m c N_nm10).dt 1 2,g:=(P.run w 0 t v (Int.ofNat (r+1)) 1 sv st m c N_nm10).kt 1 2,eF:=(P.run w 0 t v (Int.ofNat (r+1)) 1 sv st m c N_nm10).ep 1} (v+1) (Int.ofNat (r+1) - 1)).map some) (cItem P.xs v (.int sv st)++[Int.fmod v 4=1]):=by
  kernel_rfl
noncomputable def N_nm20:Nat:=(zz38+zz2<<<130+0x3010030000300c030080200004000040000401001<<<190+0x101004010000100001004<<<440)
theorem nm20 (P:NP) (w:World) (t:NS) (v:Int) (r:Nat) (sv:Int) (st:Nat) (m:MX) (c:GX) :
    isAgain (P.run w 0 t v (Int.ofNat (r+1)) 2 sv st m c N_nm20) (numLoop P.aI P.aF) ((P.led w.params 1 {t with x2:=t.x2+Int.fmod sv 61,t2:=(P.run w 0 t v (Int.ofNat (r+1)) 2 sv st m c N_nm20).dt 3 2,pv:=v,tp:=(P.run w 0 t v (Int.ofNat (r+1)) 2 sv st m c N_nm20).dt 1 2,g:=(P.run w 0 t v (Int.ofNat (r+1)) 2 sv st m c N_nm20).kt 1 2,eF:=(P.run w 0 t v (Int.ofNat (r+1)) 2 sv st m c N_nm20).ep 1} (v+1) (Int.ofNat (r+1) - 1)).map some) (cItem P.xs v (.int sv st)++[Int.fmod v 4=2]):=by
  kernel_rfl
noncomputable def N_nm30:Nat:=(zz38+zz2<<<130+0x3010030000300c030080200004000040000401001<<<190+0x101004010000100001004<<<440)
theorem nm30 (P:NP) (w:World) (t:NS) (v:Int) (r:Nat) (sv:Int) (st:Nat) (m:MX) (c:GX) :
    isAgain (P.run w 0 t v (Int.ofNat (r+1)) 3 sv st m c N_nm30) (numLoop P.aI P.aF) ((P.led w.params 1 {t with x3:=t.x3+Int.fmod sv 61,t3:=(P.run w 0 t v (Int.ofNat (r+1)) 3 sv st m c N_nm30).dt 3 3,pv:=v,tp:=(P.run w 0 t v (Int.ofNat (r+1)) 3 sv st m c N_nm30).dt 1 2,g:=(P.run w 0 t v (Int.ofNat (r+1)) 3 sv st m c N_nm30).kt 1 2,eF:=(P.run w 0 t v (Int.ofNat (r+1)) 3 sv st m c N_nm30).ep 1} (v+1) (Int.ofNat (r+1) - 1)).map some) (cItem P.xs v (.int sv st)++[Int.fmod v 4=3]):=by
  kernel_rfl
noncomputable def N_ne0:Nat:=0x1801004010000100001
theorem ne0 (P:NP) (w:World) (t:NS) (v:Int) (m:MX) (c:GX) :
    isRet (P.run w 0 t v 0 0 0 0 m c N_ne0) (.ok .next) ((P.led w.params 0 t v 0).map some) []:=by
  kernel_rfl
noncomputable def N_nm01:Nat:=(zz38+zz2<<<130+0x3010030000300c030080200004000040000401001<<<190+0x101004010000100001004<<<440)
theorem nm01 (P:NP) (w:World) (t:NS) (v:Int) (r:Nat) (sv:Int) (st:Nat) (m:MX) (c:GX) :
    isAgain (P.run w 1 t v (Int.ofNat (r+1)) 0 sv st m c N_nm01) (numLoop P.aI P.aF) ((P.led w.params 1 {t with x0:=t.x0+Int.fmod sv 61,t0:=(P.run w 1 t v (Int.ofNat (r+1)) 0 sv st m c N_nm01).dt 3 0,pv:=v,tp:=(P.run w 1 t v (Int.ofNat (r+1)) 0 sv st m c N_nm01).dt 1 2,g:=(P.run w 1 t v (Int.ofNat (r+1)) 0 sv st m c N_nm01).kt 1 2,eF:=(P.run w 1 t v (Int.ofNat (r+1)) 0 sv st m c N_nm01).ep 1} (v+1) (Int.ofNat (r+1) - 1)).map some) (cItem P.xs v (.int sv st)++[Int.fmod v 4=0]):=by
  kernel_rfl
noncomputable def N_nm11:Nat:=(zz38+zz2<<<130+0x3010030000300c030080200004000040000401001<<<190+0x101004010000100001004<<<440)
theorem nm11 (P:NP) (w:World) (t:NS) (v:Int) (r:Nat) (sv:Int) (st:Nat) (m:MX) (c:GX) :
    isAgain (P.run w 1 t v (Int.ofNat (r+1)) 1 sv st m c N_nm11) (numLoop P.aI P.aF) ((P.led w.params 1 {t with x1:=t.x1+Int.fmod sv 61,t1:=(P.run w 1 t v (Int.ofNat (r+1)) 1 sv st m c N_nm11).dt 3 1,pv:=v,tp:=(P.run w 1 t v (Int.ofNat (r+1)) 1 sv st m c N_nm11).dt 1 2,g:=(P.run w 1 t v (Int.ofNat (r+1)) 1 sv st m c N_nm11).kt 1 2,eF:=(P.run w 1 t v (Int.ofNat (r+1)) 1 sv st m c N_nm11).ep 1} (v+1) (Int.ofNat (r+1) - 1)).map some) (cItem P.xs v (.int sv st)++[Int.fmod v 4=1]):=by
  kernel_rfl
noncomputable def N_nm21:Nat:=(zz38+zz2<<<130+0x3010030000300c030080200004000040000401001<<<190+0x101004010000100001004<<<440)
theorem nm21 (P:NP) (w:World) (t:NS) (v:Int) (r:Nat) (sv:Int) (st:Nat) (m:MX) (c:GX) :
    isAgain (P.run w 1 t v (Int.ofNat (r+1)) 2 sv st m c N_nm21) (numLoop P.aI P.aF) ((P.led w.params 1 {t with x2:=t.x2+Int.fmod sv 61,t2:=(P.run w 1 t v (Int.ofNat (r+1)) 2 sv st m c N_nm21).dt 3 2,pv:=v,tp:=(P.run w 1 t v (Int.ofNat (r+1)) 2 sv st m c N_nm21).dt 1 2,g:=(P.run w 1 t v (Int.ofNat (r+1)) 2 sv st m c N_nm21).kt 1 2,eF:=(P.run w 1 t v (Int.ofNat (r+1)) 2 sv st m c N_nm21).ep 1} (v+1) (Int.ofNat (r+1) - 1)).map some) (cItem P.xs v (.int sv st)++[Int.fmod v 4=2]):=by
  kernel_rfl
noncomputable def N_nm31:Nat:=(zz38+zz2<<<130+0x3010030000300c030080200004000040000401001<<<190+0x101004010000100001004<<<440)
theorem nm31 (P:NP) (w:World) (t:NS) (v:Int) (r:Nat) (sv:Int) (st:Nat) (m:MX) (c:GX) :
    isAgain (P.run w 1 t v (Int.ofNat (r+1)) 3 sv st m c N_nm31) (numLoop P.aI P.aF) ((P.led w.params 1 {t with x3:=t.x3+Int.fmod sv 61,t3:=(P.run w 1 t v (Int.ofNat (r+1)) 3 sv st m c N_nm31).dt 3 3,pv:=v,tp:=(P.run w 1 t v (Int.ofNat (r+1)) 3 sv st m c N_nm31).dt 1 2,g:=(P.run w 1 t v (Int.ofNat (r+1)) 3 sv st m c N_nm31).kt 1 2,eF:=(P.run w 1 t v (Int.ofNat (r+1)) 3 sv st m c N_nm31).ep 1} (v+1) (Int.ofNat (r+1) - 1)).map some) (cItem P.xs v (.int sv st)++[Int.fmod v 4=3]):=by
  kernel_rfl
noncomputable def N_ne1:Nat:=0x1801004010000100001
theorem ne1 (P:NP) (w:World) (t:NS) (v:Int) (m:MX) (c:GX) :
    isRet (P.run w 1 t v 0 0 0 0 m c N_ne1) (.ok .next) ((P.led w.params 1 t v 0).map some) []:=by
  kernel_rfl
structure NE where
  n:Nat
  t0:Nat
  b0:Nat
  k0:Nat
  g0:Nat
  v:Int
  b1:Nat
  k1:Nat
  g1:Nat
noncomputable def NE.e0 (e:NE):Eff:=⟨.ok (.ret (.int (Int.ofNat e.n) e.t0)),[],[],e.b0,e.k0,e.g0⟩
noncomputable def NE.e1 (e:NE) (P:NP) (w:Params) (sh:Nat) (t:NS):Eff:=⟨.ok .next,zipU [4,1,2] [(P.aI,ritO e.v 0),(P.aF,P.frame w sh t),(P.aX,t.ints)],[],e.b1,e.k1,e.g1⟩
noncomputable def NP.in (P:NP) (c:GX) (e:NE):NP:={P with aI:=e.b0+1,aF:=c.base,aX:=c.base+1,f:=fun i=>match i with | 0=>c.tk | _=>c.tk+7}
noncomputable def ns0 (tk:Nat):NS:=⟨4, -3,2, -1,tk+1,tk+3,tk+4,tk+6,0,2,0,0,0⟩
noncomputable def NP.runW (P:NP) (w:World) (x:LX) (c:GX) (N:Nat):Out:=
  (sg w x.out [0,6] {exs:=[[0],[4,1,0,2]]} [(P.aS,listO P.xs P.eS)] c.g c.base c.tk c.gb (.call (.ref 203) ⟨[.ref P.aS],[]⟩) c.p).run 500 N
noncomputable def nFin (x:Int):Int:=Int.fmod (x+30) 61 - 30
noncomputable def N_nw0:Nat:=(2050<<<30+0xc000040300c02010050000405c0101004010000100001004000000000000802000000000000802<<<150+zz1<<<480+0x180600006<<<520+zz149<<<560+zz149<<<860+zz149<<<1160+zz149<<<1460+0x8020080280601803<<<1760)
theorem nw0 (P:NP) (w:World) (t:NS) (x:LX) (c:GX) (e:NE) :
    (isCut (P.runW w x c N_nw0) (.call (.builtin "len") ⟨[.ref P.aS],[]⟩) ([some (P.aS,listO P.xs P.eS)]) []∧(P.runW w x c N_nw0).row.stk=(.func numD.b (numEnv c.base),(P.runW w x c N_nw0).sp2) :: x.out) ∧
    (isCut ((P.runW w x c N_nw0).rest e.e0) (numLoop (e.b0+1) c.base) (((P.in c e).led w.params 0 (ns0 c.tk) 0 (Builtin.Range.rangeSize 0 (Int.ofNat e.n) 1)).map some) [Builtin.Range.small 0 (Int.ofNat e.n) 1=true]∧((P.runW w x c N_nw0).rest e.e0).row.stk=(.func numD.b (numEnv c.base),((P.runW w x c N_nw0).rest e.e0).sp2) :: x.out) ∧
    isRet (((P.runW w x c N_nw0).rest e.e0).rest (e.e1 (P.in c e) w.params 0 t)) (.ok (.ret (.ref (e.b1+1)))) ([(P.aS,listO P.xs P.eS),(e.b1+1,intsO [(nFin t.x0,(((P.runW w x c N_nw0).rest e.e0).rest (e.e1 (P.in c e) w.params 0 t)).dt 1 0),(nFin t.x1,(((P.runW w x c N_nw0).rest e.e0).rest (e.e1 (P.in c e) w.params 0 t)).dt 1 1),(nFin t.x2,(((P.runW w x c N_nw0).rest e.e0).rest (e.e1 (P.in c e) w.params 0 t)).dt 1 2),(nFin t.x3,(((P.runW w x c N_nw0).rest e.e0).rest (e.e1 (P.in c e) w.params 0 t)).dt 1 3)] 4)].map some) []:=by
  refine ⟨⟨?_, ?_⟩,⟨?_, ?_⟩, ?_⟩ <;> kernel_rfl
noncomputable def N_nw1:Nat:=(2050<<<30+0xc000040300c02010050000405c0101004010000100001004000000000000802000000000000802<<<150+zz1<<<480+0x180600006<<<520+zz149<<<560+zz149<<<860+zz149<<<1160+zz149<<<1460+0x8020080280601803<<<1760)
theorem nw1 (P:NP) (w:World) (t:NS) (x:LX) (c:GX) (e:NE) :
    (isCut (P.runW w x c N_nw1) (.call (.builtin "len") ⟨[.ref P.aS],[]⟩) ([some (P.aS,listO P.xs P.eS)]) []∧(P.runW w x c N_nw1).row.stk=(.func numD.b (numEnv c.base),(P.runW w x c N_nw1).sp2) :: x.out) ∧
    (isCut ((P.runW w x c N_nw1).rest e.e0) (numLoop (e.b0+1) c.base) (((P.in c e).led w.params 0 (ns0 c.tk) 0 (Builtin.Range.rangeSize 0 (Int.ofNat e.n) 1)).map some) [Builtin.Range.small 0 (Int.ofNat e.n) 1=true]∧((P.runW w x c N_nw1).rest e.e0).row.stk=(.func numD.b (numEnv c.base),((P.runW w x c N_nw1).rest e.e0).sp2) :: x.out) ∧
    isRet (((P.runW w x c N_nw1).rest e.e0).rest (e.e1 (P.in c e) w.params 1 t)) (.ok (.ret (.ref (e.b1+1)))) ([(P.aS,listO P.xs P.eS),(e.b1+1,intsO [(nFin t.x0,(((P.runW w x c N_nw1).rest e.e0).rest (e.e1 (P.in c e) w.params 1 t)).dt 1 0),(nFin t.x1,(((P.runW w x c N_nw1).rest e.e0).rest (e.e1 (P.in c e) w.params 1 t)).dt 1 1),(nFin t.x2,(((P.runW w x c N_nw1).rest e.e0).rest (e.e1 (P.in c e) w.params 1 t)).dt 1 2),(nFin t.x3,(((P.runW w x c N_nw1).rest e.e0).rest (e.e1 (P.in c e) w.params 1 t)).dt 1 3)] 4)].map some) []:=by
  refine ⟨⟨?_, ?_⟩,⟨?_, ?_⟩, ?_⟩ <;> kernel_rfl
end Mine
end
section
open PySem PySem.W PySem.W.X PySem.Calls PyProof.Rows PySem.SeqAt
namespace Mine
inductive Ans where
  | obj (o:Obj)
  | res (r:Result)
  | stk (l:Stk)
  | ask (s:Setting)
noncomputable def adv:Nat→List Ans→Sem Fin→Sem Fin
  | 0,_,t=>t
  | n+1,l,t=>match t with
    | .rule _ k=>adv n l (k ())
    | .at _ k=>adv n l (k ())
    | .point _ k=>adv n l (k ())
    | .load _ _ k=>match l with
      | [.obj o]=>k o
      | .obj o :: l=>adv n l (k o)
      | _=>t
    | .call _ _ _ _ k=>match l with
      | [.res r]=>k r
      | .res r :: l=>adv n l (k r)
      | _=>t
    | .stack k=>match l with
      | [.stk r]=>k r
      | .stk r :: l=>adv n l (k r)
      | _=>t
    | .ask k=>match l with
      | .ask r :: l=>adv n l (k r)
      | _=>t
    | t=>t
noncomputable def pcD:FD:=defAt 3 (some 8)
noncomputable def accEnv (d:FD) (q:Str) (fn:Addr) (L:Addr):PySem.Env:={scope:=d.s,locals:=L,globals:=3,cells:=[(⟨#[95,95,99,108,97,115,115,95,95]⟩,25)],qual:=q,func:=some fn,code:= .ref (fn - 1),frame:=some L,builtins:=0}
noncomputable def pcQ:Str:=⟨#[95,65,99,99,117,109,117,108,97,116,111,114,46,112,97,114,116,95,99,111,117,110,116,46,60,108,111,99,97,108,115,62,46]⟩
noncomputable def pcEnv (L:Addr):PySem.Env:=accEnv pcD pcQ 98 L
noncomputable def pcT (den:Code→Sem Fin) (P:Params) (L:Addr) (S:Stk) (p:Pos):Sem Fin:=adv 20 [.obj (o98 P), .ask ⟨pw,P⟩, .obj (o97 P), .obj (o3 P), .obj (o0 P), .obj (o25 P), .stk ((.func pcD.b (pcEnv L),p) :: S)] (den (.func pcD.b (pcEnv L)))
theorem bind_congr {α β : Type} {x y:Sem α} {k : α → Sem β} (h:x=y):Sem.bind x k=Sem.bind y k:=by rw [h]
theorem raise_congr {α : Type} {x y:Sem α} {k:Value→Sem Unit} (h:x=y):Sem.onRaise x k=Sem.onRaise y k:=by rw [h]
theorem ite_no {α : Type} {c:Prop} [Decidable c] {A B : α} (h : ¬ c):ite c A B=B:=if_neg h
noncomputable def altP (P:Params) (L:Addr) (S:Stk) (p:Pos):{T2:Sem Fin // pcT (denote table) P L S p=T2}:=by
  apply Subtype.mk
  repeat (first | (with_unfolding_all apply ite_no) | (with_unfolding_all apply raise_congr) | (with_unfolding_all apply bind_congr))
  show ¬ ((some (some L):Option (Option Addr)) != some (some L))=true
  simp
theorem Kept.same {s s' : Shared} {L:Led} (K:Kept s s' L.as) (h:AllAt s L) (h' : AllAt s' L):Kept s s' [] where
  keep b o e _:=by
    by_cases q:b∈L.as
    · obtain ⟨x,hx,rfl⟩:=List.mem_map.mp q
      have e1:=h x hx
      rw [e] at e1
      cases e1
      exact h' x hx
    · exact K.keep b o e q
  le:=K.le
  bare:=K.bare
  drawn:=K.drawn
  os:=K.os
structure AP where
  n:Nat
  aD:Addr
  xs:List Value
  eP:Nat
  z:Int
  k0:Nat
  k1:Nat
  eD:Nat
noncomputable abbrev AP.aP (a:AP):Addr:=a.n+236
noncomputable def AP.led (a:AP) (w:Params):Led:=[(a.aP,accO a.aD a.xs a.eP),(a.aD,sizeO w a.z a.k0 a.k1 a.eD)]
noncomputable def pcPos:Pos:={line:=41,col:=15,endLine:=41,endCol:=22}
noncomputable def pcAlt (w:World) (L:Addr) (S:Stk):Sem Fin × Sem Fin:=(pcT denF w.params L S pcPos,(altP w.params L S pcPos).val)
theorem pcAlt_ok (w:World) (L:Addr) (S:Stk):(pcAlt w L S).1=(pcAlt w L S).2:=
  (congrArg (fun d=>pcT d w.params L S pcPos) denF_eq).trans (altP w.params L S pcPos).property
noncomputable def popD:FD:=defAt 3 (some 3)
noncomputable def popEnv (L:Addr):PySem.Env:=accEnv popD ⟨#[95,65,99,99,117,109,117,108,97,116,111,114,46,112,111,112,46,60,108,111,99,97,108,115,62,46]⟩ 61 L
noncomputable def popPos:Pos:={line:=23,col:=15,endLine:=23,endCol:=22}
noncomputable def popT (den:Code→Sem Fin) (P:Params) (L:Addr) (S:Stk) (p:Pos):Sem Fin:=adv 20 [.obj (o61 P), .ask ⟨pw,P⟩, .obj (o60 P), .obj (o3 P), .obj (o0 P), .obj (o25 P), .stk ((.func popD.b (popEnv L),p) :: S)] (den (.func (popD.b.drop 1) (popEnv L)))
noncomputable def altQ (P:Params) (L:Addr) (S:Stk) (p:Pos):{T2:Sem Fin // popT (denote table) P L S p=T2}:=by
  apply Subtype.mk
  repeat (first | (with_unfolding_all apply ite_no) | (with_unfolding_all apply raise_congr) | (with_unfolding_all apply bind_congr))
  show ¬ ((some (some L):Option (Option Addr)) != some (some L))=true
  simp
noncomputable def popAlt (w:World) (L:Addr) (S:Stk):Sem Fin × Sem Fin:=(popT denF w.params L S popPos,(altQ w.params L S popPos).val)
theorem popAlt_ok (w:World) (L:Addr) (S:Stk):(popAlt w L S).1=(popAlt w L S).2:=
  (congrArg (fun d=>popT d w.params L S popPos) denF_eq).trans (altQ w.params L S popPos).property
end Mine
end
section
open PySem PySem.W PySem.W.X PySem.Calls PyProof.Rows PySem.SeqAt
namespace Mine
noncomputable def RD.met (P:RD):Obj:=⟨.type "method", none, .fields #[.ref 170, .ref P.aR], #[]⟩
noncomputable def citB (w:Params) (P:RD) (q:Nat) (T:Sem Fin):Sem Fin:=adv 40 [.obj (citO P.aM (P.f 13)), .obj (citO P.aM (P.f 13)), .obj P.met, .obj (o170 w), .res (.ok (.ret (.str (S []) q))), .obj (citO P.aM (P.f 13)), .obj (citO P.aM (P.f 13))] T
noncomputable def citT (den:Code→Sem Fin) (w:Params) (P:RD) (q:Nat):Sem Fin:=citB w P q (den (.builtin "callable_iterator.__next__" ⟨[.ref P.aC],[]⟩))
theorem ite_yes {α : Type} {c:Prop} [Decidable c] {A B : α} (h:c):ite c A B=A:=if_pos h
theorem val_ne {x y:Str} {a b:Nat} (h:a≠b) : ¬ ((Value.str x a == Value.str y b)=true):=by
  intro q
  have:Value.str x a=Value.str y b:=by simpa using q
  cases this
  exact h rfl
theorem val_eq {x:Str} {a b:Nat} (h:a=b):(Value.str x a == Value.str x b)=true:=by
  subst h
  simp
noncomputable def eqNe (a b:Value):Sem Bool:=holding [a,b] do truthOfDropped (← richCompare .Eq a b)
noncomputable def eqYes (a b:Value):Sem Bool:=holding [a,b] do
  rule "eq-bool.same-object"
  return true
theorem eqBool_ne {x y:Str} {a b:Nat} (h:a≠b):eqBool (.str x a) (.str y b)=eqNe (.str x a) (.str y b):=by
  unfold eqBool eqNe
  rw [if_neg (val_ne h)]
theorem eqBool_yes {x:Str} {a b:Nat} (h:a=b):eqBool (.str x a) (.str x b)=eqYes (.str x a) (.str x b):=by
  unfold eqBool eqYes
  rw [if_pos (val_eq h)]
noncomputable def citN (w:Params) (P:RD) (q:Nat) (h:P.f 13≠q):{T2:Sem Fin // citB w P q (Builtin.«callable_iterator.__next__» ⟨[.ref P.aC],[]⟩)=T2}:=by
  apply Subtype.mk
  unfold citB
  conv =>
    lhs
    whnf
    arg 1
    arg 2
    change eqBool (.str (S []) (P.f 13)) (.str (S []) q)
    rw [eqBool_ne h]
noncomputable def citY (w:Params) (P:RD) (q:Nat) (h:P.f 13=q):{T2:Sem Fin // citB w P q (Builtin.«callable_iterator.__next__» ⟨[.ref P.aC],[]⟩)=T2}:=by
  apply Subtype.mk
  unfold citB
  conv =>
    lhs
    whnf
    arg 1
    arg 2
    change eqBool (.str (S []) (P.f 13)) (.str (S []) q)
    rw [eqBool_yes h]
theorem citT_eq (w:Params) (P:RD) (q:Nat):citT denF w P q=citB w P q (Builtin.«callable_iterator.__next__» ⟨[.ref P.aC],[]⟩):=by
  unfold citT
  rw [denF_eq]
  have e:entryFor table "callable_iterator.__next__" = some Builtin.«callable_iterator.__next__» :=entryFor_of_tree (by kernel_rfl)
  show citB w P q (match entryFor table "callable_iterator.__next__" with | some b=>b ⟨[.ref P.aC],[]⟩ | none=>unsupported ((withoutEnding? "callable_iterator.__next__" "#data").getD "callable_iterator.__next__"))=_
  rw [e]
noncomputable def altN (w:World) (P:RD) (q:Nat) (h:P.f 13≠q):Sem Fin × Sem Fin:=(citT denF w.params P q,(citN w.params P q h).val)
noncomputable def altY (w:World) (P:RD) (q:Nat) (h:P.f 13=q):Sem Fin × Sem Fin:=(citT denF w.params P q,(citY w.params P q h).val)
theorem altN_ok (w:World) (P:RD) (q:Nat) (h:P.f 13≠q):(altN w P q h).1=(altN w P q h).2:=(citT_eq w.params P q).trans (citN w.params P q h).property
theorem altY_ok (w:World) (P:RD) (q:Nat) (h:P.f 13=q):(altY w P q h).1=(altY w P q h).2:=(citT_eq w.params P q).trans (citY w.params P q h).property
noncomputable def endTok (P:RD) (t:RS) (c:GX):Nat:=cond ((slicePicked P.x (some (t.i+1 - 1,c.tk+8)) (some (t.i+1,c.tk+6)) none).length == P.x.length) P.tx (c.tk+10)
end Mine
end
section
open PySem PySem.W PySem.W.X PySem.Calls PyProof.Rows PySem.SeqAt
namespace Mine
noncomputable def N_oz0N:Nat:=(zz31+0x480100401004010040000c01000000000100400ff4010000e<<<1100)
noncomputable def N_oz0Y:Nat:=(zz31+0x480100401004010040000c0100400ff4010000e<<<1100)
noncomputable def N_uzN:Nat:=(zz31+0x480100401004010040000c01000000000100400ff4010000e<<<1100)
noncomputable def N_uzY:Nat:=(zz31+0x480100401004010040000c0100400ff4010000e<<<1100)
noncomputable def RD.runZ (P:RD) (w:World) (cd:Addr→Addr→Code) (sh:Nat) (t:RS) (al:Sem Fin × Sem Fin) (ol:Stk) (c:GX) (N:Nat):Out:=
  (sg w ol lexIds {exs:=[lexIds],ss:=[S []],alts:=[al]} (P.led w.params sh t) c.g c.base c.tk c.gb (cd P.aC P.aF) c.p).run 800 N
theorem lx_oz0N (P:RD) (w:World) (t:RS) (x:CX) (c:GX) (h:P.f 13≠endTok P t c) :
    isRet (P.runZ w tokLoop 0 t (altN w P (endTok P t c) h) x.out c N_oz0N) (.ok .next) ((P.led w.params 0 {t with i:=t.i+1,ti:=(P.runZ w tokLoop 0 t (altN w P (endTok P t c) h) x.out c N_oz0N).dt 12 0} true).map some) (cRd P (t.i+1) (c.tk+8) (c.tk+6) (S [])):=by
  kernel_rfl
theorem lx_oz0Y (P:RD) (w:World) (t:RS) (x:CX) (c:GX) (h:P.f 13=endTok P t c) :
    isRet (P.runZ w tokLoop 0 t (altY w P (endTok P t c) h) x.out c N_oz0Y) (.ok .next) ((P.led w.params 0 {t with i:=t.i+1,ti:=(P.runZ w tokLoop 0 t (altY w P (endTok P t c) h) x.out c N_oz0Y).dt 12 0} true).map some) (cRd P (t.i+1) (c.tk+8) (c.tk+6) (S [])):=by
  kernel_rfl
theorem lx_uzN (P:RD) (w:World) (t:RS) (x:QX) (c:GX) (h:P.f 13≠endTok P t c) :
    isRet (P.runZ w uLoop 1 t (altN w P (endTok P t c) h) x.out c N_uzN) (.ok .next) ((P.led w.params 1 {t with i:=t.i+1,ti:=(P.runZ w uLoop 1 t (altN w P (endTok P t c) h) x.out c N_uzN).dt 12 0} true).map some) (cRd P (t.i+1) (c.tk+8) (c.tk+6) (S [])):=by
  kernel_rfl
theorem lx_uzY (P:RD) (w:World) (t:RS) (x:QX) (c:GX) (h:P.f 13=endTok P t c) :
    isRet (P.runZ w uLoop 1 t (altY w P (endTok P t c) h) x.out c N_uzY) (.ok .next) ((P.led w.params 1 {t with i:=t.i+1,ti:=(P.runZ w uLoop 1 t (altY w P (endTok P t c) h) x.out c N_uzY).dt 12 0} true).map some) (cRd P (t.i+1) (c.tk+8) (c.tk+6) (S [])):=by
  kernel_rfl
end Mine
end
section
open PySem PySem.W PySem.W.X PySem.Calls PyProof.Rows PySem.SeqAt
namespace Mine
noncomputable def pIds:List Nat:=[12,10,11,0,1,2,3,4,5,6,7,8,9]
noncomputable def objIds:List Nat:=[0,1,2,3,4,5,6,7,8,9]
noncomputable def RD.in (P:RD) (base tk:Nat):RD:={P with aC:=base+2,aF:=base,aM:=base+1,f:=fun i=>match i with | 0=>tk | 1=>tk+5 | 2=>tk+8 | 13=>tk+7 | i=>P.f i}
noncomputable def RS.in (t:RS) (tk:Nat):RS:={t with tok:=S [],tt:=tk+4,eF:=3}
noncomputable def RI.effP (i:RI) (P:RD) (w:Params):Eff:=⟨.ok (.ret (.str i.y i.ty)),zipU pIds (P.led w 1 i.u),[],i.b,i.k,i.g⟩
noncomputable def RI.effQ (i:RI) (P:RD) (w:Params) (sh:Nat):Eff:=⟨.ok .next,zipU pIds (P.led w sh i.u true),[],i.b,i.k,i.g⟩
noncomputable def RD.runT (P:RD) (w:World) (t:RS) (o:OP) (c:GX) (N:Nat):Out:=
  (sg w o.out objIds {exs:=[pIds]} (P.obj w.params t) c.g c.base c.tk c.gb (.call (.ref 177) ⟨[.ref P.aR],[]⟩) c.p).run 800 N
noncomputable def N_gt0:Nat:=(0x100000000000040b0000002c0b000000000300003000030000300c0200001004000000000400000000000102c000000002c0b<<<30+0x80000401<<<500+0x203400034000040d0340b02c0b0000c<<<620)
noncomputable def N_gt1:Nat:=(0x100000000000040b0000002c0b000000000300003000030000300c0200001004000000000400000000000102c000000002c0b<<<30+0x80000401<<<500+0x2c0203400034000040d0340b02c0b0000c<<<620)
noncomputable def N_gt2:Nat:=(0x100000000000040b0000002c0b000000000300003000030000300c0200001004000000000400000000000102c000000002c0b<<<30+0x80000401<<<500+0x2c0203400034000040d0340b02c0b0000c<<<620)
theorem gt_0 (P:RD) (w:World) (t:RS) (o:OP) (c:GX) (i:RI) :
    isCut (P.runT w t o c N_gt0) (tokLoop (c.base+2) c.base) (((P.in c.base c.tk).led w.params 0 (t.in c.tk)).map some) [] ∧
    (P.runT w t o c N_gt0).row.stk=CX.out ⟨tokD.b,tokEnv c.base,(P.runT w t o c N_gt0).sp2,o,c.g,0,0,0,c.p⟩ ∧
    isRet ((P.runT w t o c N_gt0).rest (i.effP (P.in c.base c.tk) w.params)) (.ok (.ret (.str i.y i.ty))) ((P.obj w.params i.u).map some) []:=by
  refine ⟨?_, ?_, ?_⟩ <;> kernel_rfl
theorem gt_1 (P:RD) (w:World) (t:RS) (o:OP) (c:GX) (i:RI) :
    isCut (P.runT w t o c N_gt1) (tokLoop (c.base+2) c.base) (((P.in c.base c.tk).led w.params 0 (t.in c.tk)).map some) [] ∧
    (P.runT w t o c N_gt1).row.stk=CX.out ⟨tokD.b,tokEnv c.base,(P.runT w t o c N_gt1).sp2,o,c.g,0,0,0,c.p⟩ ∧
    isRet ((P.runT w t o c N_gt1).rest (i.effQ (P.in c.base c.tk) w.params 1)) (.ok (.ret (.str i.u.tok i.u.tt))) ((P.obj w.params i.u).map some) []:=by
  refine ⟨?_, ?_, ?_⟩ <;> kernel_rfl
theorem gt_2 (P:RD) (w:World) (t:RS) (o:OP) (c:GX) (i:RI) :
    isCut (P.runT w t o c N_gt2) (tokLoop (c.base+2) c.base) (((P.in c.base c.tk).led w.params 0 (t.in c.tk)).map some) [] ∧
    (P.runT w t o c N_gt2).row.stk=CX.out ⟨tokD.b,tokEnv c.base,(P.runT w t o c N_gt2).sp2,o,c.g,0,0,0,c.p⟩ ∧
    isRet ((P.runT w t o c N_gt2).rest (i.effQ (P.in c.base c.tk) w.params 0)) (.ok (.ret (.str i.u.tok i.u.tt))) ((P.obj w.params i.u).map some) []:=by
  refine ⟨?_, ?_, ?_⟩ <;> kernel_rfl
end Mine
end
section
open PySem PySem.W PySem.W.X PySem.Calls PyProof.Rows PySem.SeqAt
namespace Mine
noncomputable def N_pc:Nat:=(3075<<<30+3073<<<140+0x40001400014000040000000000040100400004000040100401004010040100000401000000100001004<<<220)
noncomputable def pcRun (w:World) (a:AP) (ol:Stk) (g:Gh) (base tk gb:Nat) (p:Pos):Out:=
  (sg w ol [0,1] {alts:=[pcAlt w base ol]} (a.led w.params) g base tk gb (.call (.ref 98) ⟨[.ref a.aP],[]⟩) p).run 100 N_pc
theorem pc_of {w:World} {a:AP} {s:Shared} {p:Pos} {O:List Frame} {ol:Stk} (R:Ready w s (a.led w.params)) (hO:OutIs O ol)
    (h:isRet (pcRun w a ol (ghO s (a.led w.params)) s.heap.objs.size s.toks s.gens.size p) (.ok (.ret (.int (Int.ofNat a.xs.length) (s.toks+2)))) ((a.led w.params).map some) []) :
    ∃ r s',EndsAt (model pw w) s (.call (.ref 98) ⟨[.ref a.aP],[]⟩) p O s' r∧Kept s s' [] ∧ ∃ t,r = .ok (.ret (.int (Int.ofNat a.xs.length) t)):=by
  obtain ⟨s',hE,hK,hA⟩:=seg_ret (r:={alts:=[pcAlt w s.heap.objs.size ol]}) R hO (by decide) (fun x hx=>by
    rcases List.mem_cons.mp hx with rfl | hx
    · exact pcAlt_ok w _ _
    · exact nomatch hx) h no_cond
  exact ⟨_,s',hE,hK.same R.at' hA,_,rfl⟩
theorem pc_turn (w:World) (a:AP) (t:PySem.Expr) (it:Value) (b o:List Stmt) (e:PySem.Env) (p' : Pos) (b2:List Stmt) (e2:PySem.Env) (p2:Pos) (q:OP) (g:Gh) (base tk gb:Nat) (p:Pos) :
    isRet (pcRun w a ((.forLoop t it b o e,p') :: (.func b2 e2,p2) :: q.out) g base tk gb p) (.ok (.ret (.int (Int.ofNat a.xs.length) (tk+2)))) ((a.led w.params).map some) []:=by
  kernel_rfl
end Mine
end
section
open PySem PySem.W PySem.W.X PySem.Calls PyProof.Rows PySem.SeqAt
namespace Mine
structure SP where
  t:PySem.Expr
  it:Value
  b:List Stmt
  o:List Stmt
  e:PySem.Env
  p:Pos
  t' : PySem.Expr
  it' : Value
  b' : List Stmt
  o' : List Stmt
  e' : PySem.Env
  p' : Pos
  b2:List Stmt
  e2:PySem.Env
  p2:Pos
  q:OP
noncomputable def SP.out (c:SP):Stk:=(.forLoop c.t c.it c.b c.o c.e,c.p) :: (.forLoop c.t' c.it' c.b' c.o' c.e',c.p') :: (.func c.b2 c.e2,c.p2) :: c.q.out
noncomputable def atPop:Pos:={line:=21,col:=11,endLine:=21,endCol:=28}
theorem pc_pop (w:World) (a:AP) (L:Addr) (c:SP) (g:Gh) (base tk gb:Nat) (p p0:Pos) :
    isRet (pcRun w a ((.func popD.b (popEnv L),p0) :: c.out) g base tk gb p) (.ok (.ret (.int (Int.ofNat a.xs.length) (tk+2)))) ((a.led w.params).map some) []:=by
  kernel_rfl
noncomputable def N_pop1:Nat:=(0xc000000000c03<<<30+zz124<<<90+0x800000010080000801<<<220+3073<<<360+0x40300000004010000101400014000040000000000040100400004000040100401004010040100000401000000100001004<<<440)
noncomputable def N_pop0:Nat:=(0xc000000000c03<<<30+zz124<<<90+0x400000010080000801<<<220)
noncomputable def pop1Run (w:World) (a:AP) (ys:List Value) (pa:Addr) (c:SP) (g:Gh) (base tk gb:Nat) (p:Pos):Out:=
  (sg w c.out [0,1] {exs:=[[0,1]],px:=ys,pv:= .ref pa,alts:=[popAlt w base c.out]} (a.led w.params) g base tk gb (.call (.ref 61) ⟨[.ref a.aP],[]⟩) p).run 150 N_pop1
noncomputable def pop0Run (w:World) (a:AP) (c:SP) (g:Gh) (base tk gb:Nat) (p:Pos):Out:=
  (sg w c.out [0,1,3] {exs:=[[0,1]],alts:=[popAlt w base c.out]} (a.led w.params) g base tk gb (.call (.ref 61) ⟨[.ref a.aP],[]⟩) p).run 150 N_pop0
theorem pop1_run (w:World) (a:AP) (ys:List Value) (pa:Addr) (c:SP) (g:Gh) (base tk gb:Nat) (p:Pos) (m:X) :
    isCut (pop1Run w a ys pa c g base tk gb p) (.call (.ref 98) ⟨[.ref a.aP],[]⟩) ((a.led w.params).map some) [] ∧
    (pop1Run w a ys pa c g base tk gb p).row.stk=(.func popD.b (popEnv base),atPop) :: c.out ∧
    isRet ((pop1Run w a ys pa c g base tk gb p).rest m.eff) (.ok (.ret (.ref pa))) ((AP.led {a with xs:=ys,eP:=a.eP+1} w.params).map some) [a.xs=ys++[.ref pa],a.xs.length≤1000,(m.v == 0)=false]:=by
  refine ⟨?_, ?_, ?_⟩ <;> kernel_rfl
theorem pop0_run (w:World) (a:AP) (c:SP) (g:Gh) (base tk gb:Nat) (p:Pos) (m:X) :
    isCut (pop0Run w a c g base tk gb p) (.call (.ref 98) ⟨[.ref a.aP],[]⟩) ((a.led w.params).map some) [] ∧
    (pop0Run w a c g base tk gb p).row.stk=(.func popD.b (popEnv base),atPop) :: c.out ∧
    isRet ((pop0Run w a c g base tk gb p).rest m.eff) (.ok (.ret (.ref m.b))) ((a.led w.params++[(m.b,tupO [.str (S []) (((pop0Run w a c g base tk gb p).rest m.eff).dt 2 0), .str (S []) (((pop0Run w a c g base tk gb p).rest m.eff).dt 2 1)] 0)]).map some) [(m.v == 0)=true]:=by
  refine ⟨?_, ?_, ?_⟩ <;> kernel_rfl
end Mine
end
section
open PySem PySem.W PySem.W.X PySem.Calls PyProof.Rows PySem.SeqAt
namespace Mine
theorem Ready.cut {w:World} {ol:Stk} {ids:List Nat} {g:Gh} {r:Ora} {s:Shared} {L:Led} {base off tk:Nat} (P : ∃ ids' gb,Pst (Vk w ol ids g r) s ids' (L.map some) base off tk gb) (hb : ∀ x∈s.gens,x.bare=true) (nd:L.as.Nodup) (ap:kNone w L):Ready w s L:=
  ⟨pst_at P,nd,ap,by obtain ⟨_,_,P⟩:=P; exact P.old,hb⟩
theorem AtCall.outIs {p:Pos} {O:List Frame} {stk stk' : Stk} (h:AtCall p O stk) (e:stk=stk'):OutIs O stk' :=e ▸ h.toOutIs
theorem one_alt {al:Sem Fin × Sem Fin} (h:al.1=al.2) : ∀ x∈[al],x.1=x.2:=fun x hx=>by
  rcases List.mem_cons.mp hx with rfl | hx
  · exact h
  · exact nomatch hx
theorem allP3 {a b c:Prop} (ha:a) (hb:b) (hc:c) : ∀ x∈[a,b,c],x:=AllP.cons ha (.cons hb (.cons hc .nil))
theorem pop1_ok {w:World} {a:AP} {ys:List Value} {pa:Addr} {s:Shared} {p:Pos} {O:List Frame} {c:SP} (R:Ready w s (a.led w.params)) (hO:OutIs O c.out) (hx:a.xs=ys++[.ref pa]) (hl:a.xs.length≤1000) :
    ∃ s',EndsAt (model pw w) s (.call (.ref 61) ⟨[.ref a.aP],[]⟩) p O s' (.ok (.ret (.ref pa)))∧Kept s s' (a.led w.params).as∧AllAt s' (AP.led {a with xs:=ys,eP:=a.eP+1} w.params):=by
  obtain ⟨r,s',hE,rfl,hK,hA⟩:=seg_ok (P:=fun r s' => r = .ok (.ret (.ref pa))∧Kept s s' (a.led w.params).as∧AllAt s' (AP.led {a with xs:=ys,eP:=a.eP+1} w.params)) (p:=p) (N:=N_pop1) (fuel:=150)
    (ids:=[0,1]) (r:={exs:=[[0,1]],px:=ys,pv:= .ref pa,alts:=[popAlt w s.heap.objs.size c.out]}) R hO (by decide) (one_alt (popAlt_ok w _ _))
    (ok_pcut (R:=fun r => ∃ t,r = .ok (.ret (.int (Int.ofNat a.xs.length) t))) (pop1_run w a ys pa c _ _ _ _ p x0).1 no_cond
      (fun s1 p1 O1 base off tk P hb hO1=>pc_of (Ready.cut P hb R.nd R.ap) (hO1.outIs (pop1_run w a ys pa c _ _ _ _ p x0).2.1) (pc_pop w a _ c _ _ _ _ p1 atPop))
      (fun r b k g ht=>by
        obtain ⟨t,rfl⟩:=ht
        refine ok_ret (pop1_run w a ys pa c _ _ _ _ p ⟨Int.ofNat a.xs.length,t,b,k,g⟩).2.2 (allP3 hx hl ?_) (fun s' _ _ _ gb P' hb=>⟨rfl,kept_of R.starts P' hb,all_of P'⟩)
        rw [hx,List.length_append]
        exact beq_eq_false_iff_ne.mpr (by show Int.ofNat _≠Int.ofNat 0; intro q; have:=Int.ofNat.inj q; simp at this)))
  exact ⟨s',hE,hK,hA⟩
inductive pop0_ok_r (w:World) (a:AP) (s:Shared) (p:Pos) (O:List Frame):Prop
  | mk : ∀ s' n z1 z2,(EndsAt (model pw w) s (.call (.ref 61) ⟨[.ref a.aP],[]⟩) p O s' (.ok (.ret (.ref n))))→(Kept s s' (a.led w.params).as)→(AllAt s' (a.led w.params++[(n,tupO [.str (S []) z1, .str (S []) z2] 0)]))→(s.heap.objs.size≤n)→pop0_ok_r w a s p O
theorem pop0_ok {w:World} {a:AP} {s:Shared} {p:Pos} {O:List Frame} {c:SP} (R:Ready w s (a.led w.params)) (hO:OutIs O c.out) (hx:a.xs=[]):pop0_ok_r w a s p O:=by
  obtain ⟨r,s',hE,n,z1,z2,rfl,hK,hA,hn⟩:=seg_ok (P:=fun r s' => ∃ n z1 z2,r = .ok (.ret (.ref n))∧Kept s s' (a.led w.params).as∧AllAt s' (a.led w.params++[(n,tupO [.str (S []) z1, .str (S []) z2] 0)])∧s.heap.objs.size≤n) (p:=p) (N:=N_pop0) (fuel:=150)
    (ids:=[0,1,3]) (r:={exs:=[[0,1]],alts:=[popAlt w s.heap.objs.size c.out]}) R hO (by decide) (one_alt (popAlt_ok w _ _))
    (ok_cut (pop0_run w a c _ _ _ _ p x0).1 no_cond
      (fun s1 p1 O1 base off tk P hb hO1=>by
        obtain ⟨r,s2,hE,hK,t,rfl⟩:=pc_of (Ready.cut P hb R.nd R.ap) (hO1.outIs (pop0_run w a c _ _ _ _ p x0).2.1) (pc_pop w a _ c _ _ _ _ p1 atPop)
        refine ⟨⟨.ok (.ret (.int (Int.ofNat a.xs.length) t)),[],[],s2.heap.objs.size,s2.toks,s2.gens.size⟩,s2,hE,eff_of (ix:=[]) (F:=[]) (news:=[]) hK (fun _ h=>nomatch h) (fun _ h=>nomatch h) (fun _ h=>nomatch h) List.nodup_nil List.nodup_nil rfl, ?_⟩
        refine ok_ret (pop0_run w a c _ _ _ _ p ⟨Int.ofNat a.xs.length,t,s2.heap.objs.size,s2.toks,s2.gens.size⟩).2.2 ?_ (fun s' _ _ _ gb P' hb=>⟨_,_,_,rfl,kept_of R.starts P' hb,all_of P', ?_⟩)
        · rw [hx]; exact AllP.cons rfl .nil
        · refine Nat.le_trans ?_ hK.le
          obtain ⟨_,_,P⟩:=P
          have:=P.le
          rw [P.size]
          exact this))
  exact ⟨s',n,z1,z2,hE,hK,hA,hn⟩
end Mine
end
section
open PySem PySem.W PySem.W.X PySem.Calls PyProof.Rows PySem.SeqAt
namespace Mine
structure IP where
  t:PySem.Expr
  it:Value
  b:List Stmt
  o:List Stmt
  e:PySem.Env
  p:Pos
  b2:List Stmt
  e2:PySem.Env
  p2:Pos
  q:OP
noncomputable def IP.out (c:IP):Stk:=(.forLoop c.t c.it c.b c.o c.e,c.p) :: (.func c.b2 c.e2,c.p2) :: c.q.out
noncomputable def IP.sp (c:IP) (aR aF:Addr) (p:Pos):SP:=⟨leftIn.t, .ref aR,leftIn.b,leftIn.o,leftEnv aF,p,c.t,c.it,c.b,c.o,c.e,c.p,c.b2,c.e2,c.p2,c.q⟩
noncomputable def LP.inL (P:LP) (w:Params) (t:LS) (aR:Addr) (v left:Int):Led:=[(aR,ritO v left),(P.aF,P.frame w t),(P.aP,accO P.aD t.xs t.eP),(P.aD,sizeO w P.z P.kz P.tz P.eD)]
noncomputable def Out.sp (o:Out):Pos:=match o.row.stk with | x :: _=>x.2 | _=>default
noncomputable def LP.inRun (P:LP) (w:World) (t:LS) (aR:Addr) (v left:Int) (c:IP) (ids:List Nat) (Z:Led) (g:Gh) (base tk gb:Nat) (p:Pos) (N:Nat):Out:=
  (sg w c.out ids {exs:=[[2,3]]} (P.inL w.params t aR v left++Z) g base tk gb (leftInLoop aR P.aF) p).run 200 N
noncomputable def N_in0_2:Nat:=0x1801004010000100001
theorem in_0_2 (P:LP) (w:World) (t:LS) (aR:Addr) (v:Int) (c:IP) (g:Gh) (base tk gb:Nat) (p:Pos) :
  isRet (P.inRun w {t with sh:=2} aR v 0 c [0,1,2,3] [] g base tk gb p N_in0_2) (.ok .next) ((P.inL w.params {t with sh:=2} aR v 0).map some) []:=by
  kernel_rfl
noncomputable def N_in1_2:Nat:=(zz38+zz9<<<130+0x10080000001<<<160)
theorem in_1_2 (P:LP) (w:World) (t:LS) (aR:Addr) (v:Int) (c:IP) (g:Gh) (base tk gb:Nat) (p:Pos) (r:Nat) :
  isAgain (P.inRun w {t with sh:=2} aR v (Int.ofNat (r+1)) c [0,1,2,3] [] g base tk gb p N_in1_2) (leftInLoop aR P.aF) ((P.inL w.params {t with sh:=2,tv:=v,ttv:=(P.inRun w {t with sh:=2} aR v (Int.ofNat (r+1)) c [0,1,2,3] [] g base tk gb p N_in1_2).dt 1 9} aR (v+1) (Int.ofNat (r+1) - 1)).map some) [decide (t.sv>0)=false]:=by
  kernel_rfl
noncomputable def N_in2_1:Nat:=(zz38+zz9<<<130+zz67<<<160+0x200004<<<350+zz9<<<390+0x3c0001400014000140501402<<<440+0x100802<<<610)
theorem in_2_1 (P:LP) (w:World) (t:LS) (aR:Addr) (v:Int) (c:IP) (g:Gh) (base tk gb:Nat) (p:Pos) (r:Nat) (z:PQ) (ys:List Value) (eP b k gb' : Nat) :
  isCut (P.inRun w {t with sh:=1} aR v (Int.ofNat (r+1)) c [0,1,2,3,4] z.led g base tk gb p N_in2_1) (.call (.ref 61) ⟨[.ref P.aP],[]⟩) ([some (P.aP,accO P.aD t.xs t.eP),some (P.aD,sizeO w.params P.z P.kz P.tz P.eD)]) [decide (t.sv>0)=true] ∧
  (P.inRun w {t with sh:=1} aR v (Int.ofNat (r+1)) c [0,1,2,3,4] z.led g base tk gb p N_in2_1).row.stk=(c.sp aR P.aF (P.inRun w {t with sh:=1} aR v (Int.ofNat (r+1)) c [0,1,2,3,4] z.led g base tk gb p N_in2_1).sp).out ∧
  isAgain ((P.inRun w {t with sh:=1} aR v (Int.ofNat (r+1)) c [0,1,2,3,4] z.led g base tk gb p N_in2_1).rest ⟨.ok (.ret (.ref z.a)),zipU [2,3] [(P.aP,accO P.aD ys eP),(P.aD,sizeO w.params P.z P.kz P.tz P.eD)],[],b,k,gb'⟩) (leftInLoop aR P.aF) ((P.inL w.params {t with sh:=2,xs:=ys,eP:=eP,aK:=z.a,sv:=t.sv - Int.ofNat z.w.length,tsv:=((P.inRun w {t with sh:=1} aR v (Int.ofNat (r+1)) c [0,1,2,3,4] z.led g base tk gb p N_in2_1).rest ⟨.ok (.ret (.ref z.a)),zipU [2,3] [(P.aP,accO P.aD ys eP),(P.aD,sizeO w.params P.z P.kz P.tz P.eD)],[],b,k,gb'⟩).dt 1 8,tv:=v,ttv:=((P.inRun w {t with sh:=1} aR v (Int.ofNat (r+1)) c [0,1,2,3,4] z.led g base tk gb p N_in2_1).rest ⟨.ok (.ret (.ref z.a)),zipU [2,3] [(P.aP,accO P.aD ys eP),(P.aD,sizeO w.params P.z P.kz P.tz P.eD)],[],b,k,gb'⟩).dt 1 9,g:=fun i=>((P.inRun w {t with sh:=1} aR v (Int.ofNat (r+1)) c [0,1,2,3,4] z.led g base tk gb p N_in2_1).rest ⟨.ok (.ret (.ref z.a)),zipU [2,3] [(P.aP,accO P.aD ys eP),(P.aD,sizeO w.params P.z P.kz P.tz P.eD)],[],b,k,gb'⟩).kt 1 (6+i),eF:=((P.inRun w {t with sh:=1} aR v (Int.ofNat (r+1)) c [0,1,2,3,4] z.led g base tk gb p N_in2_1).rest ⟨.ok (.ret (.ref z.a)),zipU [2,3] [(P.aP,accO P.aD ys eP),(P.aD,sizeO w.params P.z P.kz P.tz P.eD)],[],b,k,gb'⟩).ep 1} aR (v+1) (Int.ofNat (r+1) - 1)++z.led).map some) [z.w.length≤16777216]:=by
  refine ⟨?_, ?_, ?_⟩ <;> kernel_rfl
noncomputable def N_in2_2:Nat:=(zz38+zz9<<<130+zz67<<<160+0x200004<<<350+zz9<<<390+0x3c0001400014000140501402<<<440+0x100802<<<610)
theorem in_2_2 (P:LP) (w:World) (t:LS) (aR:Addr) (v:Int) (c:IP) (g:Gh) (base tk gb:Nat) (p:Pos) (r:Nat) (z:PQ) (ys:List Value) (eP b k gb' : Nat) :
  isCut (P.inRun w {t with sh:=2} aR v (Int.ofNat (r+1)) c [0,1,2,3,4] z.led g base tk gb p N_in2_2) (.call (.ref 61) ⟨[.ref P.aP],[]⟩) ([some (P.aP,accO P.aD t.xs t.eP),some (P.aD,sizeO w.params P.z P.kz P.tz P.eD)]) [decide (t.sv>0)=true] ∧
  (P.inRun w {t with sh:=2} aR v (Int.ofNat (r+1)) c [0,1,2,3,4] z.led g base tk gb p N_in2_2).row.stk=(c.sp aR P.aF (P.inRun w {t with sh:=2} aR v (Int.ofNat (r+1)) c [0,1,2,3,4] z.led g base tk gb p N_in2_2).sp).out ∧
  isAgain ((P.inRun w {t with sh:=2} aR v (Int.ofNat (r+1)) c [0,1,2,3,4] z.led g base tk gb p N_in2_2).rest ⟨.ok (.ret (.ref z.a)),zipU [2,3] [(P.aP,accO P.aD ys eP),(P.aD,sizeO w.params P.z P.kz P.tz P.eD)],[],b,k,gb'⟩) (leftInLoop aR P.aF) ((P.inL w.params {t with sh:=2,xs:=ys,eP:=eP,aK:=z.a,sv:=t.sv - Int.ofNat z.w.length,tsv:=((P.inRun w {t with sh:=2} aR v (Int.ofNat (r+1)) c [0,1,2,3,4] z.led g base tk gb p N_in2_2).rest ⟨.ok (.ret (.ref z.a)),zipU [2,3] [(P.aP,accO P.aD ys eP),(P.aD,sizeO w.params P.z P.kz P.tz P.eD)],[],b,k,gb'⟩).dt 1 8,tv:=v,ttv:=((P.inRun w {t with sh:=2} aR v (Int.ofNat (r+1)) c [0,1,2,3,4] z.led g base tk gb p N_in2_2).rest ⟨.ok (.ret (.ref z.a)),zipU [2,3] [(P.aP,accO P.aD ys eP),(P.aD,sizeO w.params P.z P.kz P.tz P.eD)],[],b,k,gb'⟩).dt 1 9,g:=fun i=>((P.inRun w {t with sh:=2} aR v (Int.ofNat (r+1)) c [0,1,2,3,4] z.led g base tk gb p N_in2_2).rest ⟨.ok (.ret (.ref z.a)),zipU [2,3] [(P.aP,accO P.aD ys eP),(P.aD,sizeO w.params P.z P.kz P.tz P.eD)],[],b,k,gb'⟩).kt 1 (6+i),eF:=((P.inRun w {t with sh:=2} aR v (Int.ofNat (r+1)) c [0,1,2,3,4] z.led g base tk gb p N_in2_2).rest ⟨.ok (.ret (.ref z.a)),zipU [2,3] [(P.aP,accO P.aD ys eP),(P.aD,sizeO w.params P.z P.kz P.tz P.eD)],[],b,k,gb'⟩).ep 1} aR (v+1) (Int.ofNat (r+1) - 1)++z.led).map some) [z.w.length≤16777216]:=by
  refine ⟨?_, ?_, ?_⟩ <;> kernel_rfl
noncomputable def N_in3_1:Nat:=(zz38+zz9<<<130+zz67<<<160+0x200004<<<350+zz9<<<390+0x3c0001400014000140501402<<<440+0x100802<<<610)
theorem in_3_1 (P:LP) (w:World) (t:LS) (aR:Addr) (v:Int) (c:IP) (g:Gh) (base tk gb:Nat) (p:Pos) (r:Nat) (pa:Addr) (z1 z2:Nat) (ys:List Value) (eP b k gb' : Nat) :
  isCut (P.inRun w {t with sh:=1} aR v (Int.ofNat (r+1)) c [0,1,2,3,4] [] g base tk gb p N_in3_1) (.call (.ref 61) ⟨[.ref P.aP],[]⟩) ([some (P.aP,accO P.aD t.xs t.eP),some (P.aD,sizeO w.params P.z P.kz P.tz P.eD)]) [decide (t.sv>0)=true] ∧
  (P.inRun w {t with sh:=1} aR v (Int.ofNat (r+1)) c [0,1,2,3,4] [] g base tk gb p N_in3_1).row.stk=(c.sp aR P.aF (P.inRun w {t with sh:=1} aR v (Int.ofNat (r+1)) c [0,1,2,3,4] [] g base tk gb p N_in3_1).sp).out ∧
  isAgain ((P.inRun w {t with sh:=1} aR v (Int.ofNat (r+1)) c [0,1,2,3,4] [] g base tk gb p N_in3_1).rest ⟨.ok (.ret (.ref pa)),zipU [2,3] [(P.aP,accO P.aD ys eP),(P.aD,sizeO w.params P.z P.kz P.tz P.eD)],[(pa,tupO [.str (S []) z1, .str (S []) z2] 0)],b,k,gb'⟩) (leftInLoop aR P.aF) ((P.inL w.params {t with sh:=2,xs:=ys,eP:=eP,aK:=pa,sv:=t.sv - Int.ofNat (S []).length,tsv:=((P.inRun w {t with sh:=1} aR v (Int.ofNat (r+1)) c [0,1,2,3,4] [] g base tk gb p N_in3_1).rest ⟨.ok (.ret (.ref pa)),zipU [2,3] [(P.aP,accO P.aD ys eP),(P.aD,sizeO w.params P.z P.kz P.tz P.eD)],[(pa,tupO [.str (S []) z1, .str (S []) z2] 0)],b,k,gb'⟩).dt 1 8,tv:=v,ttv:=((P.inRun w {t with sh:=1} aR v (Int.ofNat (r+1)) c [0,1,2,3,4] [] g base tk gb p N_in3_1).rest ⟨.ok (.ret (.ref pa)),zipU [2,3] [(P.aP,accO P.aD ys eP),(P.aD,sizeO w.params P.z P.kz P.tz P.eD)],[(pa,tupO [.str (S []) z1, .str (S []) z2] 0)],b,k,gb'⟩).dt 1 9,g:=fun i=>((P.inRun w {t with sh:=1} aR v (Int.ofNat (r+1)) c [0,1,2,3,4] [] g base tk gb p N_in3_1).rest ⟨.ok (.ret (.ref pa)),zipU [2,3] [(P.aP,accO P.aD ys eP),(P.aD,sizeO w.params P.z P.kz P.tz P.eD)],[(pa,tupO [.str (S []) z1, .str (S []) z2] 0)],b,k,gb'⟩).kt 1 (6+i),eF:=((P.inRun w {t with sh:=1} aR v (Int.ofNat (r+1)) c [0,1,2,3,4] [] g base tk gb p N_in3_1).rest ⟨.ok (.ret (.ref pa)),zipU [2,3] [(P.aP,accO P.aD ys eP),(P.aD,sizeO w.params P.z P.kz P.tz P.eD)],[(pa,tupO [.str (S []) z1, .str (S []) z2] 0)],b,k,gb'⟩).ep 1} aR (v+1) (Int.ofNat (r+1) - 1)++[(pa,tupO [.str (S []) z1, .str (S []) z2] 0)]).map some) [(S []).length≤16777216]:=by
  refine ⟨?_, ?_, ?_⟩ <;> kernel_rfl
noncomputable def N_in3_2:Nat:=(zz38+zz9<<<130+zz67<<<160+0x200004<<<350+zz9<<<390+0x3c0001400014000140501402<<<440+0x100802<<<610)
theorem in_3_2 (P:LP) (w:World) (t:LS) (aR:Addr) (v:Int) (c:IP) (g:Gh) (base tk gb:Nat) (p:Pos) (r:Nat) (pa:Addr) (z1 z2:Nat) (ys:List Value) (eP b k gb' : Nat) :
  isCut (P.inRun w {t with sh:=2} aR v (Int.ofNat (r+1)) c [0,1,2,3,4] [] g base tk gb p N_in3_2) (.call (.ref 61) ⟨[.ref P.aP],[]⟩) ([some (P.aP,accO P.aD t.xs t.eP),some (P.aD,sizeO w.params P.z P.kz P.tz P.eD)]) [decide (t.sv>0)=true] ∧
  (P.inRun w {t with sh:=2} aR v (Int.ofNat (r+1)) c [0,1,2,3,4] [] g base tk gb p N_in3_2).row.stk=(c.sp aR P.aF (P.inRun w {t with sh:=2} aR v (Int.ofNat (r+1)) c [0,1,2,3,4] [] g base tk gb p N_in3_2).sp).out ∧
  isAgain ((P.inRun w {t with sh:=2} aR v (Int.ofNat (r+1)) c [0,1,2,3,4] [] g base tk gb p N_in3_2).rest ⟨.ok (.ret (.ref pa)),zipU [2,3] [(P.aP,accO P.aD ys eP),(P.aD,sizeO w.params P.z P.kz P.tz P.eD)],[(pa,tupO [.str (S []) z1, .str (S []) z2] 0)],b,k,gb'⟩) (leftInLoop aR P.aF) ((P.inL w.params {t with sh:=2,xs:=ys,eP:=eP,aK:=pa,sv:=t.sv - Int.ofNat (S []).length,tsv:=((P.inRun w {t with sh:=2} aR v (Int.ofNat (r+1)) c [0,1,2,3,4] [] g base tk gb p N_in3_2).rest ⟨.ok (.ret (.ref pa)),zipU [2,3] [(P.aP,accO P.aD ys eP),(P.aD,sizeO w.params P.z P.kz P.tz P.eD)],[(pa,tupO [.str (S []) z1, .str (S []) z2] 0)],b,k,gb'⟩).dt 1 8,tv:=v,ttv:=((P.inRun w {t with sh:=2} aR v (Int.ofNat (r+1)) c [0,1,2,3,4] [] g base tk gb p N_in3_2).rest ⟨.ok (.ret (.ref pa)),zipU [2,3] [(P.aP,accO P.aD ys eP),(P.aD,sizeO w.params P.z P.kz P.tz P.eD)],[(pa,tupO [.str (S []) z1, .str (S []) z2] 0)],b,k,gb'⟩).dt 1 9,g:=fun i=>((P.inRun w {t with sh:=2} aR v (Int.ofNat (r+1)) c [0,1,2,3,4] [] g base tk gb p N_in3_2).rest ⟨.ok (.ret (.ref pa)),zipU [2,3] [(P.aP,accO P.aD ys eP),(P.aD,sizeO w.params P.z P.kz P.tz P.eD)],[(pa,tupO [.str (S []) z1, .str (S []) z2] 0)],b,k,gb'⟩).kt 1 (6+i),eF:=((P.inRun w {t with sh:=2} aR v (Int.ofNat (r+1)) c [0,1,2,3,4] [] g base tk gb p N_in3_2).rest ⟨.ok (.ret (.ref pa)),zipU [2,3] [(P.aP,accO P.aD ys eP),(P.aD,sizeO w.params P.z P.kz P.tz P.eD)],[(pa,tupO [.str (S []) z1, .str (S []) z2] 0)],b,k,gb'⟩).ep 1} aR (v+1) (Int.ofNat (r+1) - 1)++[(pa,tupO [.str (S []) z1, .str (S []) z2] 0)]).map some) [(S []).length≤16777216]:=by
  refine ⟨?_, ?_, ?_⟩ <;> kernel_rfl
end Mine
end
section
open PySem PySem.W PySem.W.X PySem.Calls PyProof.Rows PySem.SeqAt
namespace Mine
noncomputable def xsOf (ps:List PQ):List Value:=ps.reverse.map fun z => .ref z.a
theorem xsOf_cons (z:PQ) (ps:List PQ):xsOf (z :: ps)=xsOf ps++[.ref z.a]:=by simp [xsOf]
noncomputable def LP.ap (P:LP) (t:LS):AP:=⟨P.nP,P.aD,t.xs,t.eP,P.z,P.kz,P.tz,P.eD⟩
structure Turned (t t' : LS) (xs:List Value) (sv:Int) (aK:Addr):Prop where
  sh:t'.sh=2
  j:t'.j=t.j
  own:t'.own=t.own
  to:t'.to=t.to
  pv:t'.pv=t.pv
  tp:t'.tp=t.tp
  xs:t'.xs=xs
  sv:t'.sv=sv
  aK:t'.aK=aK
theorem nodup2 {a b c d:Addr} {l:List Addr} (h:(a :: b :: c :: d :: l).Nodup):[c,d].Nodup:=by
  simp only [List.nodup_cons,List.mem_cons,not_or] at h
  simp only [List.nodup_cons,List.mem_cons,List.not_mem_nil,or_false,not_false_eq_true,List.nodup_nil,and_true]
  exact h.2.2.1.1
theorem kNone_of {w:World} {L L' : Led} (h:kNone w L) (hs : ∀ x∈L',∃ y∈L,y.1=x.1):kNone w L' :=fun x hx=>by
  obtain ⟨y,hy,e⟩:=hs x hx
  rw [← e]
  exact h y hy
theorem left_pred (r:Nat):Int.ofNat (r+1) - 1=Int.ofNat r:=by
  show ((r+1:Nat):Int) - 1=(r:Int)
  lia
theorem in2_of {P:LP} {w:World} {t:LS} {aR:Addr} {v:Int} {c:IP} {r:Nat} {z:PQ} {ys:List Value} {N:Nat} {s:Shared} {p:Pos} {O:List Frame}
    (F : ∀ (eP b k gb' : Nat) (g:Gh) (base tk gb:Nat),isCut (P.inRun w t aR v (Int.ofNat (r+1)) c [0,1,2,3,4] z.led g base tk gb p N) (.call (.ref 61) ⟨[.ref P.aP],[]⟩) ([some (P.aP,accO P.aD t.xs t.eP),some (P.aD,sizeO w.params P.z P.kz P.tz P.eD)]) [decide (t.sv>0)=true] ∧
      (P.inRun w t aR v (Int.ofNat (r+1)) c [0,1,2,3,4] z.led g base tk gb p N).row.stk=(c.sp aR P.aF (P.inRun w t aR v (Int.ofNat (r+1)) c [0,1,2,3,4] z.led g base tk gb p N).sp).out ∧
      ∃ t',Turned t t' ys (t.sv - Int.ofNat z.w.length) z.a∧t'.eP=eP∧isAgain ((P.inRun w t aR v (Int.ofNat (r+1)) c [0,1,2,3,4] z.led g base tk gb p N).rest ⟨.ok (.ret (.ref z.a)),zipU [2,3] [(P.aP,accO P.aD ys eP),(P.aD,sizeO w.params P.z P.kz P.tz P.eD)],[],b,k,gb'⟩) (leftInLoop aR P.aF)
        ((P.inL w.params t' aR (v+1) (Int.ofNat (r+1) - 1)++z.led).map some) [z.w.length≤16777216])
    (R:Ready w s (P.inL w.params t aR v (Int.ofNat (r+1))++z.led)) (hO:OutIs O c.out) (hx:t.xs=ys++[.ref z.a]) (hl:t.xs.length≤1000) (hs:0<t.sv) (hz:z.w.length≤1000) :
    ∃ s' p',Comes (model pw w) s ⟨(model pw w).den (leftInLoop aR P.aF),leftInLoop aR P.aF,p,O⟩ s' ⟨(model pw w).den (leftInLoop aR P.aF),leftInLoop aR P.aF,p',O⟩ ∧
      Kept s s' (P.inL w.params t aR v (Int.ofNat (r+1))++z.led).as ∧ ∃ t',Turned t t' ys (t.sv - Int.ofNat z.w.length) z.a∧AllAt s' (P.inL w.params t' aR (v+1) (Int.ofNat r)++z.led):=by
  refine seg_turn (N:=N) (fuel:=200) (ids:=[0,1,2,3,4]) (r:={exs:=[[2,3]]}) R hO (by decide) no_alts ?_
  obtain ⟨F1,F2,_⟩:=F 0 0 0 0 (ghO s (P.inL w.params t aR v (Int.ofNat (r+1))++z.led)) s.heap.objs.size s.toks s.gens.size
  refine ok_cut F1 (AllP.cons (decide_eq_true hs) .nil) fun s1 p1 O1 base off tk PP hb hO1 => ?_
  have R1:Ready w s1 ((P.ap t).led w.params):=Ready.cut (L:=(P.ap t).led w.params) PP hb (nodup2 R.nd) (kNone_of R.ap fun x hx=>by
    rcases List.mem_cons.mp hx with rfl | hx
    · exact ⟨(P.aP,accO P.aD t.xs t.eP), .tail _ (.tail _ (.head _)),rfl⟩
    · rcases List.mem_cons.mp hx with rfl | hx
      · exact ⟨(P.aD,sizeO w.params P.z P.kz P.tz P.eD), .tail _ (.tail _ (.tail _ (.head _))),rfl⟩
      · exact nomatch hx)
  obtain ⟨s2,hE,hK,hA⟩:=pop1_ok (a:=P.ap t) (p:=p1) R1 (hO1.outIs F2) hx hl
  refine ⟨⟨.ok (.ret (.ref z.a)),zipU [2,3] [(P.aP,accO P.aD ys (t.eP+1)),(P.aD,sizeO w.params P.z P.kz P.tz P.eD)],[],s2.heap.objs.size,s2.toks,s2.gens.size⟩,s2,hE,
    eff_of (ix:=[2,3]) (F:=[(P.aP,accO P.aD ys (t.eP+1)),(P.aD,sizeO w.params P.z P.kz P.tz P.eD)]) (news:=[]) hK hA (fun _ h=>nomatch h) (fun _ h=>nomatch h) List.nodup_nil (by decide) rfl, ?_⟩
  obtain ⟨_,_,t',hT,_,F3⟩:=F (t.eP+1) s2.heap.objs.size s2.toks s2.gens.size (ghO s (P.inL w.params t aR v (Int.ofNat (r+1))++z.led)) s.heap.objs.size s.toks s.gens.size
  refine ok_again F3 (AllP.cons (by lia) .nil) fun s' _ _ _ gb P' hb=>⟨rfl,kept_of R.starts P' hb,t',hT, ?_⟩
  have:=all_of P'
  rw [left_pred] at this
  exact this
theorem in2_ok {P:LP} {w:World} {t:LS} {aR:Addr} {v:Int} {c:IP} {r:Nat} {z:PQ} {ys:List Value} {s:Shared} {p:Pos} {O:List Frame} (hsh:t.sh=1∨t.sh=2)
    (R:Ready w s (P.inL w.params t aR v (Int.ofNat (r+1))++z.led)) (hO:OutIs O c.out) (hx:t.xs=ys++[.ref z.a]) (hl:t.xs.length≤1000) (hs:0<t.sv) (hz:z.w.length≤1000) :
    ∃ s' p',Comes (model pw w) s ⟨(model pw w).den (leftInLoop aR P.aF),leftInLoop aR P.aF,p,O⟩ s' ⟨(model pw w).den (leftInLoop aR P.aF),leftInLoop aR P.aF,p',O⟩ ∧
      Kept s s' (P.inL w.params t aR v (Int.ofNat (r+1))++z.led).as ∧ ∃ t',Turned t t' ys (t.sv - Int.ofNat z.w.length) z.a∧AllAt s' (P.inL w.params t' aR (v+1) (Int.ofNat r)++z.led):=by
  obtain ⟨sh,j,own,to,xs,eP,eF,pv,tp,aK,sv,tsv,tv,ttv,gg⟩:=t
  rcases hsh with rfl | rfl
  · refine in2_of (N:=N_in2_1) (fun eP b k gb' g base tk gb => ?_) R hO hx hl hs hz
    obtain ⟨h1,h2,h3⟩:=in_2_1 P w ⟨1,j,own,to,xs,_,eF,pv,tp,aK,sv,tsv,tv,ttv,gg⟩ aR v c g base tk gb p r z ys eP b k gb'
    refine ⟨h1,h2,_, ?_, ?_,h3⟩
    · exact ⟨rfl,rfl,rfl,rfl,rfl,rfl,rfl,rfl,rfl⟩
    · rfl
  · refine in2_of (N:=N_in2_2) (fun eP b k gb' g base tk gb => ?_) R hO hx hl hs hz
    obtain ⟨h1,h2,h3⟩:=in_2_2 P w ⟨2,j,own,to,xs,_,eF,pv,tp,aK,sv,tsv,tv,ttv,gg⟩ aR v c g base tk gb p r z ys eP b k gb'
    refine ⟨h1,h2,_, ?_, ?_,h3⟩
    · exact ⟨rfl,rfl,rfl,rfl,rfl,rfl,rfl,rfl,rfl⟩
    · rfl
noncomputable def emptyO (z1 z2:Nat):Obj:=tupO [.str (S []) z1, .str (S []) z2] 0
theorem in3_of {P:LP} {w:World} {t:LS} {aR:Addr} {v:Int} {c:IP} {r:Nat} {N:Nat} {s:Shared} {p:Pos} {O:List Frame}
    (F : ∀ (pa:Addr) (z1 z2 b k gb' : Nat) (g:Gh) (base tk gb:Nat),isCut (P.inRun w t aR v (Int.ofNat (r+1)) c [0,1,2,3,4] [] g base tk gb p N) (.call (.ref 61) ⟨[.ref P.aP],[]⟩) ([some (P.aP,accO P.aD t.xs t.eP),some (P.aD,sizeO w.params P.z P.kz P.tz P.eD)]) [decide (t.sv>0)=true] ∧
      (P.inRun w t aR v (Int.ofNat (r+1)) c [0,1,2,3,4] [] g base tk gb p N).row.stk=(c.sp aR P.aF (P.inRun w t aR v (Int.ofNat (r+1)) c [0,1,2,3,4] [] g base tk gb p N).sp).out ∧
      ∃ t',Turned t t' t.xs (t.sv - Int.ofNat (S []).length) pa∧isAgain ((P.inRun w t aR v (Int.ofNat (r+1)) c [0,1,2,3,4] [] g base tk gb p N).rest ⟨.ok (.ret (.ref pa)),zipU [2,3] [(P.aP,accO P.aD t.xs t.eP),(P.aD,sizeO w.params P.z P.kz P.tz P.eD)],[(pa,emptyO z1 z2)],b,k,gb'⟩) (leftInLoop aR P.aF)
        ((P.inL w.params t' aR (v+1) (Int.ofNat (r+1) - 1)++[(pa,emptyO z1 z2)]).map some) [(S []).length≤16777216])
    (R:Ready w s (P.inL w.params t aR v (Int.ofNat (r+1)))) (hO:OutIs O c.out) (hx:t.xs=[]) (hs:0<t.sv) :
    ∃ s' p',Comes (model pw w) s ⟨(model pw w).den (leftInLoop aR P.aF),leftInLoop aR P.aF,p,O⟩ s' ⟨(model pw w).den (leftInLoop aR P.aF),leftInLoop aR P.aF,p',O⟩ ∧
      Kept s s' (P.inL w.params t aR v (Int.ofNat (r+1))).as ∧ ∃ t' pa z1 z2,Turned t t' t.xs t.sv pa∧s.heap.objs.size≤pa∧AllAt s' (P.inL w.params t' aR (v+1) (Int.ofNat r)++[(pa,emptyO z1 z2)]):=by
  refine seg_turn (N:=N) (fuel:=200) (ids:=[0,1,2,3,4]) (r:={exs:=[[2,3]]}) R hO (by decide) no_alts ?_
  obtain ⟨F1,F2,_⟩:=F 0 0 0 0 0 0 (ghO s (P.inL w.params t aR v (Int.ofNat (r+1)))) s.heap.objs.size s.toks s.gens.size
  refine ok_cut F1 (AllP.cons (decide_eq_true hs) .nil) fun s1 p1 O1 base off tk PP hb hO1 => ?_
  have R1:Ready w s1 ((P.ap t).led w.params):=Ready.cut (L:=(P.ap t).led w.params) PP hb (nodup2 R.nd) (kNone_of R.ap fun x hx=>by
    rcases List.mem_cons.mp hx with rfl | hx
    · exact ⟨(P.aP,accO P.aD t.xs t.eP), .tail _ (.tail _ (.head _)),rfl⟩
    · rcases List.mem_cons.mp hx with rfl | hx
      · exact ⟨(P.aD,sizeO w.params P.z P.kz P.tz P.eD), .tail _ (.tail _ (.tail _ (.head _))),rfl⟩
      · exact nomatch hx)
  obtain ⟨s2,n,z1,z2,hE,hK,hA,hn⟩:=pop0_ok (a:=P.ap t) (p:=p1) R1 (hO1.outIs F2) hx
  have hA1:AllAt s2 ((P.ap t).led w.params):=fun x hx=>hA x (List.mem_append_left _ hx)
  have hA2:AllAt s2 [(n,emptyO z1 z2)]:=fun x hx=>hA x (List.mem_append_right _ hx)
  refine ⟨⟨.ok (.ret (.ref n)),zipU [2,3] [(P.aP,accO P.aD t.xs t.eP),(P.aD,sizeO w.params P.z P.kz P.tz P.eD)],[(n,emptyO z1 z2)],s2.heap.objs.size,s2.toks,s2.gens.size⟩,s2,hE,
    eff_of (ix:=[2,3]) (F:=[(P.aP,accO P.aD t.xs t.eP),(P.aD,sizeO w.params P.z P.kz P.tz P.eD)]) (news:=[(n,emptyO z1 z2)]) hK hA1 hA2 (fun x hx=>by
      rcases List.mem_cons.mp hx with rfl | hx
      · exact hn
      · exact nomatch hx) (by simp) (by decide) rfl, ?_⟩
  obtain ⟨_,_,t',hT,F3⟩:=F n z1 z2 s2.heap.objs.size s2.toks s2.gens.size (ghO s (P.inL w.params t aR v (Int.ofNat (r+1)))) s.heap.objs.size s.toks s.gens.size
  refine ok_again F3 (AllP.cons (by decide) .nil) fun s' _ _ _ gb P' hb=>⟨rfl,kept_of R.starts P' hb,t',n,z1,z2, ?_, ?_, ?_⟩
  · have e:t.sv - Int.ofNat (S []).length=t.sv:=Int.sub_zero _
    rw [← e]; exact hT
  · refine Nat.le_trans ?_ hn
    obtain ⟨_,_,PP⟩:=PP
    have:=PP.le
    rw [PP.size]
    exact this
  · have:=all_of P'
    rw [left_pred] at this
    exact this
theorem in3_ok {P:LP} {w:World} {t:LS} {aR:Addr} {v:Int} {c:IP} {r:Nat} {s:Shared} {p:Pos} {O:List Frame} (hsh:t.sh=1∨t.sh=2)
    (R:Ready w s (P.inL w.params t aR v (Int.ofNat (r+1)))) (hO:OutIs O c.out) (hx:t.xs=[]) (hs:0<t.sv) :
    ∃ s' p',Comes (model pw w) s ⟨(model pw w).den (leftInLoop aR P.aF),leftInLoop aR P.aF,p,O⟩ s' ⟨(model pw w).den (leftInLoop aR P.aF),leftInLoop aR P.aF,p',O⟩ ∧
      Kept s s' (P.inL w.params t aR v (Int.ofNat (r+1))).as ∧ ∃ t' pa z1 z2,Turned t t' t.xs t.sv pa∧s.heap.objs.size≤pa∧AllAt s' (P.inL w.params t' aR (v+1) (Int.ofNat r)++[(pa,emptyO z1 z2)]):=by
  obtain ⟨sh,j,own,to,xs,eP,eF,pv,tp,aK,sv,tsv,tv,ttv,gg⟩:=t
  rcases hsh with rfl | rfl
  · refine in3_of (N:=N_in3_1) (fun pa z1 z2 b k gb' g base tk gb => ?_) R hO hx hs
    obtain ⟨h1,h2,h3⟩:=in_3_1 P w ⟨1,j,own,to,xs,eP,eF,pv,tp,aK,sv,tsv,tv,ttv,gg⟩ aR v c g base tk gb p r pa z1 z2 xs eP b k gb'
    refine ⟨h1,h2,_, ?_,h3⟩
    exact ⟨rfl,rfl,rfl,rfl,rfl,rfl,rfl,rfl,rfl⟩
  · refine in3_of (N:=N_in3_2) (fun pa z1 z2 b k gb' g base tk gb => ?_) R hO hx hs
    obtain ⟨h1,h2,h3⟩:=in_3_2 P w ⟨2,j,own,to,xs,eP,eF,pv,tp,aK,sv,tsv,tv,ttv,gg⟩ aR v c g base tk gb p r pa z1 z2 xs eP b k gb'
    refine ⟨h1,h2,_, ?_,h3⟩
    exact ⟨rfl,rfl,rfl,rfl,rfl,rfl,rfl,rfl,rfl⟩
theorem in1_ok {P:LP} {w:World} {t:LS} {aR:Addr} {v:Int} {c:IP} {r:Nat} {s:Shared} {p:Pos} {O:List Frame} (hsh:t.sh=2)
    (R:Ready w s (P.inL w.params t aR v (Int.ofNat (r+1)))) (hO:OutIs O c.out) (hs : ¬ 0<t.sv) :
    ∃ s' p',Comes (model pw w) s ⟨(model pw w).den (leftInLoop aR P.aF),leftInLoop aR P.aF,p,O⟩ s' ⟨(model pw w).den (leftInLoop aR P.aF),leftInLoop aR P.aF,p',O⟩ ∧
      Kept s s' (P.inL w.params t aR v (Int.ofNat (r+1))).as ∧ ∃ t',Turned t t' t.xs t.sv t.aK∧AllAt s' (P.inL w.params t' aR (v+1) (Int.ofNat r)):=by
  obtain ⟨sh,j,own,to,xs,eP,eF,pv,tp,aK,sv,tsv,tv,ttv,gg⟩:=t
  subst hsh
  have F:=in_1_2 P w ⟨2,j,own,to,xs,eP,eF,pv,tp,aK,sv,tsv,tv,ttv,gg⟩ aR v c (ghO s (P.inL w.params ⟨2,j,own,to,xs,eP,eF,pv,tp,aK,sv,tsv,tv,ttv,gg⟩ aR v (Int.ofNat (r+1)))) s.heap.objs.size s.toks s.gens.size p r
  obtain ⟨s',p',hC,hK,hA⟩:=seg_again (ids:=[0,1,2,3]) (r:={exs:=[[2,3]]}) (N:=N_in1_2) (fuel:=200) (L:=P.inL w.params ⟨2,j,own,to,xs,eP,eF,pv,tp,aK,sv,tsv,tv,ttv,gg⟩ aR v (Int.ofNat (r+1))++[]) (by rw [List.append_nil]; exact R) hO (by decide) no_alts F (AllP.cons (decide_eq_false hs) .nil)
  rw [List.append_nil] at hK
  rw [left_pred] at hA
  refine ⟨s',p',hC,hK,_, ?_,hA⟩
  exact ⟨rfl,rfl,rfl,rfl,rfl,rfl,rfl,rfl,rfl⟩
theorem in0_ok {P:LP} {w:World} {t:LS} {aR:Addr} {v:Int} {c:IP} {s:Shared} {p:Pos} {O:List Frame} (hsh:t.sh=2)
    (R:Ready w s (P.inL w.params t aR v 0)) (hO:OutIs O c.out) :
    ∃ s',EndsAt (model pw w) s (leftInLoop aR P.aF) p O s' (.ok .next)∧Kept s s' (P.inL w.params t aR v 0).as∧AllAt s' (P.inL w.params t aR v 0):=by
  obtain ⟨sh,j,own,to,xs,eP,eF,pv,tp,aK,sv,tsv,tv,ttv,gg⟩:=t
  subst hsh
  have F:=in_0_2 P w ⟨2,j,own,to,xs,eP,eF,pv,tp,aK,sv,tsv,tv,ttv,gg⟩ aR v c (ghO s (P.inL w.params ⟨2,j,own,to,xs,eP,eF,pv,tp,aK,sv,tsv,tv,ttv,gg⟩ aR v 0)) s.heap.objs.size s.toks s.gens.size p
  obtain ⟨s',hE,hK,hA⟩:=seg_ret (ids:=[0,1,2,3]) (r:={exs:=[[2,3]]}) (N:=N_in0_2) (fuel:=200) (L:=P.inL w.params ⟨2,j,own,to,xs,eP,eF,pv,tp,aK,sv,tsv,tv,ttv,gg⟩ aR v 0++[]) (by rw [List.append_nil]; exact R) hO (by decide) no_alts F no_cond
  rw [List.append_nil] at hK
  exact ⟨s',hE,hK,hA⟩
end Mine
end
section
open PySem PySem.W PySem.W.X PySem.Calls PyProof.Rows PySem.SeqAt
namespace Mine
inductive Pc where
  | same
  | part (z:PQ)
  | none_
noncomputable def Pc.or:Pc→Pc→Pc | .same,y=>y | x,_=>x
noncomputable def popN:Nat→Int→List PQ→Int × List PQ × Pc
  | 0,sv,ps=>(sv,ps, .same)
  | r+1,sv,ps=>if 0<sv then match ps with
      | []=>((popN r sv []).1,(popN r sv []).2.1,(popN r sv []).2.2.or .none_)
      | z :: ps=>((popN r (sv - Int.ofNat z.w.length) ps).1,(popN r (sv - Int.ofNat z.w.length) ps).2.1,(popN r (sv - Int.ofNat z.w.length) ps).2.2.or (.part z))
    else popN r sv ps
noncomputable def PcOk (s' : Shared) (n:Nat) (a a' : Addr):Pc→Prop
  | .same=>a' = a
  | .part z=>a' = z.a
  | .none_ => ∃ z1 z2,s'.heap.get? a' = some (emptyO z1 z2)∧n≤a'
theorem Kept.drop {s s' : Shared} {L M:Led} (K:Kept s s' (Led.as (L++M))) (h:AllAt s M) (h' : AllAt s' M):Kept s s' L.as where
  keep b o e hb:=by
    by_cases q:b∈M.as
    · obtain ⟨x,hx,rfl⟩:=List.mem_map.mp q
      have e1:=h x hx
      rw [e] at e1
      cases e1
      exact h' x hx
    · exact K.keep b o e fun hm=>by
        obtain ⟨x,hx,rfl⟩:=List.mem_map.mp hm
        rcases List.mem_append.mp hx with hx | hx
        · exact hb (List.mem_map.mpr ⟨x,hx,rfl⟩)
        · exact q (List.mem_map.mpr ⟨x,hx,rfl⟩)
  le:=K.le
  bare:=K.bare
  drawn:=K.drawn
  os:=K.os
theorem Old.kept {w:World} {s s' : Shared} {A:List Addr} (h:Old w s) (K:Kept s s' A) (ha : ∀ a∈A,(ktP w.params).get a=none):Old w s' :=fun a o e =>
  K.keep a o (h a o e) fun hm=>by rw [ha a hm] at e; cases e
theorem kNone_as {w:World} {L:Led} (h:kNone w L) : ∀ a∈L.as,(ktP w.params).get a=none:=fun a ha=>by
  obtain ⟨x,hx,rfl⟩:=List.mem_map.mp ha
  exact h x hx
theorem kNone_eq {w:World} {L L' : Led} (h:kNone w L) (e:L'.as=L.as):kNone w L' :=fun x hx =>
  kNone_as h _ (e ▸ List.mem_map.mpr ⟨x,hx,rfl⟩)
theorem Ready.next {w:World} {s s' : Shared} {L L' : Led} (R:Ready w s L) (K:Kept s s' L.as) (hA:AllAt s' L') (e:L'.as=L.as):Ready w s' L' :=
  ⟨hA,e ▸ R.nd,kNone_eq R.ap e,R.old.kept K (kNone_as R.ap),K.bare R.bare⟩
theorem AllAt.kept {s s' : Shared} {A:List Addr} {L:Led} (h:AllAt s L) (K:Kept s s' A) (hd : ∀ x∈L,x.1∉A):AllAt s' L:=fun x hx=>K.keep _ _ (h x hx) (hd x hx)
theorem Ready.lt {w:World} {s:Shared} {L:Led} (R:Ready w s L) {a:Addr} (h:a∈L.as):a<s.heap.objs.size:=by
  obtain ⟨x,hx,rfl⟩:=List.mem_map.mp h
  exact get?_lt (R.at' x hx)
noncomputable def partsL (ps:List PQ):Led:=ps.flatMap PQ.led
theorem partsL_mem {ps:List PQ} {x:Addr × Obj} (h:x∈partsL ps) : ∃ z∈ps,x=(z.a,tupO [.str z.w z.tw, .str z.n z.tn] z.e):=by
  obtain ⟨z,hz,hx⟩:=List.mem_flatMap.mp h
  rcases List.mem_cons.mp hx with rfl | hx
  · exact ⟨z,hz,rfl⟩
  · exact nomatch hx
theorem partsL_of {ps:List PQ} {z:PQ} (h:z∈ps):(z.a,tupO [.str z.w z.tw, .str z.n z.tn] z.e)∈partsL ps:=List.mem_flatMap.mpr ⟨z,h, .head _⟩
theorem PcOk.or {s' : Shared} {n m:Nat} {a a1 a' : Addr} {x y:Pc} (h:PcOk s' m a1 a' x) (hn:n≤m) (hy:a' = a1→PcOk s' n a a' y):PcOk s' n a a' (x.or y):=by
  cases x with
  | same=>exact hy h
  | part z=>exact h
  | none_ =>
    obtain ⟨z1,z2,h1,h2⟩:=h
    exact ⟨z1,z2,h1,Nat.le_trans hn h2⟩
theorem inner_ok {P:LP} {w:World} {aR:Addr} {c:IP} {O:List Frame} (hO:OutIs O c.out) : ∀ (r:Nat) {t:LS} {ps:List PQ} {v:Int} {s:Shared} {p:Pos},Ready w s (P.inL w.params t aR v (Int.ofNat r))→AllAt s (partsL ps) →
    ((P.inL w.params t aR v 0).as++ps.map (·.a)).Nodup→(∀ z∈ps,(ktP w.params).get z.a=none)→t.xs=xsOf ps→ps.length≤1000→(∀ z∈ps,z.w.length≤1000)→(t.sh=2∨(t.sh=1∧0<t.sv∧r≠0)) →
    ∃ s' t' v',EndsAt (model pw w) s (leftInLoop aR P.aF) p O s' (.ok .next)∧Kept s s' (P.inL w.params t aR v 0).as∧AllAt s' (P.inL w.params t' aR v' 0)∧Turned t t' (xsOf (popN r t.sv ps).2.1) (popN r t.sv ps).1 t'.aK∧PcOk s' s.heap.objs.size t.aK t'.aK (popN r t.sv ps).2.2
  | 0,t,ps,v,s,p,R,hp,hd,hk,hx,hl,hz,hsh=>by
    have hsh:t.sh=2:=by
      rcases hsh with h | h
      · exact h
      · exact absurd rfl h.2.2
    obtain ⟨s',hE,hK,hA⟩:=in0_ok (p:=p) hsh R hO
    exact ⟨s',t,v,hE,hK,hA,⟨hsh,rfl,rfl,rfl,rfl,rfl,hx,rfl,rfl⟩,rfl⟩
  | r+1,t,ps,v,s,p,R,hp,hd,hk,hx,hl,hz,hsh=>by
    have sh12:t.sh=1∨t.sh=2:=by
      rcases hsh with h | h
      · exact .inr h
      · exact .inl h.1
    by_cases hs:0<t.sv
    · cases ps with
      | nil =>
        obtain ⟨s1,p1,hC,hK,t1,pa,z1,z2,hT,hn,hA⟩:=in3_ok (p:=p) sh12 R hO hx hs
        have hA1:AllAt s1 (P.inL w.params t1 aR (v+1) (Int.ofNat r)):=fun x hx=>hA x (List.mem_append_left _ hx)
        obtain ⟨s',t',v',hE,hK2,hA2,hT2,hP⟩:=inner_ok hO r (t:=t1) (ps:=[]) (p:=p1) (R.next hK hA1 rfl) (fun _ h=>nomatch h) hd hk (hT.xs.trans hx) hl hz (.inl hT.sh)
        have e:popN (r+1) t.sv []=((popN r t.sv []).1,(popN r t.sv []).2.1,(popN r t.sv []).2.2.or .none_):=by
          show (if 0<t.sv then _ else _)=_
          rw [if_pos hs]
        rw [hT.sv] at hT2 hP
        rw [e]
        refine ⟨s',t',v',hE.after hC,hK.trans hK2 (fun b hb => .inl hb),hA2,⟨hT2.sh,hT2.j.trans hT.j,hT2.own.trans hT.own,hT2.to.trans hT.to,hT2.pv.trans hT.pv,hT2.tp.trans hT.tp,hT2.xs,hT2.sv,rfl⟩, ?_⟩
        refine hP.or hK.le fun q=>⟨z1,z2, ?_, ?_⟩
        · rw [q,hT.aK]
          refine hK2.keep _ _ (hA (pa,emptyO z1 z2) (List.mem_append_right _ (.head _))) fun hm => ?_
          exact absurd (R.lt (show pa∈(P.inL w.params t aR v (Int.ofNat (r+1))).as from hm)) (Nat.not_lt.mpr hn)
        · rw [q,hT.aK]; exact hn
      | cons z ps =>
        have hzin:z∈z :: ps:= .head _
        have nz:(Led.as (P.inL w.params t aR v (Int.ofNat (r+1))++z.led)).Nodup:=by
          have:(Led.as (P.inL w.params t aR v (Int.ofNat (r+1))++z.led))=(P.inL w.params t aR v 0).as++[z.a]:=rfl
          rw [this]
          exact hd.sublist (List.Sublist.append_left (List.Sublist.cons_cons _ (List.nil_sublist _)) _)
        have zat:AllAt s z.led:=fun x hx=>by
          rcases List.mem_cons.mp hx with rfl | hx
          · exact hp _ (partsL_of hzin)
          · exact nomatch hx
        have at2:AllAt s (P.inL w.params t aR v (Int.ofNat (r+1))++z.led):=fun x hx=>by
          rcases List.mem_append.mp hx with hx | hx
          · exact R.at' x hx
          · exact zat x hx
        have ap2:kNone w (P.inL w.params t aR v (Int.ofNat (r+1))++z.led):=fun x hx=>by
          rcases List.mem_append.mp hx with hx | hx
          · exact R.ap x hx
          · rcases List.mem_cons.mp hx with rfl | hx
            · exact hk z hzin
            · exact nomatch hx
        have R2:Ready w s (P.inL w.params t aR v (Int.ofNat (r+1))++z.led):=⟨at2,nz,ap2,R.old,R.bare⟩
        have hlen:t.xs.length≤1000:=by rw [hx]; simpa [xsOf] using hl
        obtain ⟨s1,p1,hC,hK,t1,hT,hA⟩:=in2_ok (p:=p) sh12 R2 hO (hx.trans (xsOf_cons z ps)) hlen hs (hz z hzin)
        have hA1:AllAt s1 (P.inL w.params t1 aR (v+1) (Int.ofNat r)):=fun x hx=>hA x (List.mem_append_left _ hx)
        have hA3:AllAt s1 z.led:=fun x hx=>hA x (List.mem_append_right _ hx)
        have hK1:Kept s s1 (P.inL w.params t aR v (Int.ofNat (r+1))).as:=hK.drop zat hA3
        have hd' : ((P.inL w.params t aR v 0).as++ps.map (·.a)).Nodup:=hd.sublist (List.Sublist.append_left (List.sublist_cons_self _ _) _)
        have hp1:AllAt s1 (partsL ps):=AllAt.kept (fun x hx=>by
            obtain ⟨y,hy,rfl⟩:=partsL_mem hx
            exact hp _ (partsL_of (.tail _ hy))) hK1 fun x hx hm=>by
          obtain ⟨y,hy,rfl⟩:=partsL_mem hx
          exact (List.nodup_append.mp hd').2.2 _ hm _ (List.mem_map.mpr ⟨y,hy,rfl⟩) rfl
        obtain ⟨s',t',v',hE,hK2,hA2,hT2,hP⟩:=inner_ok hO r (t:=t1) (ps:=ps) (p:=p1) (R.next hK1 hA1 rfl) hp1 hd' (fun y hy=>hk y (.tail _ hy)) hT.xs (by simp only [List.length_cons] at hl; lia) (fun y hy=>hz y (.tail _ hy)) (.inl hT.sh)
        have e:popN (r+1) t.sv (z :: ps)=((popN r (t.sv - Int.ofNat z.w.length) ps).1,(popN r (t.sv - Int.ofNat z.w.length) ps).2.1,(popN r (t.sv - Int.ofNat z.w.length) ps).2.2.or (.part z)):=by
          show (if 0<t.sv then _ else _)=_
          rw [if_pos hs]
        rw [hT.sv] at hT2 hP
        rw [e]
        refine ⟨s',t',v',hE.after hC,hK1.trans hK2 (fun b hb => .inl hb),hA2,⟨hT2.sh,hT2.j.trans hT.j,hT2.own.trans hT.own,hT2.to.trans hT.to,hT2.pv.trans hT.pv,hT2.tp.trans hT.tp,hT2.xs,hT2.sv,rfl⟩, ?_⟩
        exact hP.or hK.le fun q=>q.trans hT.aK
    · have sh2:t.sh=2:=by
        rcases hsh with h | h
        · exact h
        · exact absurd h.2.1 hs
      obtain ⟨s1,p1,hC,hK,t1,hT,hA⟩:=in1_ok (p:=p) sh2 R hO hs
      have hp1:AllAt s1 (partsL ps):=AllAt.kept hp hK fun x hx hm=>by
        obtain ⟨y,hy,rfl⟩:=partsL_mem hx
        exact (List.nodup_append.mp hd).2.2 _ hm _ (List.mem_map.mpr ⟨y,hy,rfl⟩) rfl
      obtain ⟨s',t',v',hE,hK2,hA2,hT2,hP⟩:=inner_ok hO r (t:=t1) (ps:=ps) (p:=p1) (R.next hK hA rfl) hp1 hd hk (hT.xs.trans hx) hl hz (.inl hT.sh)
      have e:popN (r+1) t.sv ps=popN r t.sv ps:=by
        show (if 0<t.sv then _ else _)=_
        rw [if_neg hs]
      rw [hT.sv] at hT2 hP
      rw [e]
      refine ⟨s',t',v',hE.after hC,hK.trans hK2 (fun b hb => .inl hb),hA2,⟨hT2.sh,hT2.j.trans hT.j,hT2.own.trans hT.own,hT2.to.trans hT.to,hT2.pv.trans hT.pv,hT2.tp.trans hT.tp,hT2.xs,hT2.sv,rfl⟩, ?_⟩
      rw [hT.aK] at hP
      revert hP
      cases (popN r t.sv ps).2.2 with
      | same=>exact fun h=>h
      | part z=>exact fun h=>h
      | none_=>exact fun ⟨z1,z2,h1,h2⟩=>⟨z1,z2,h1,Nat.le_trans hK.le h2⟩
end Mine
end
section
open PySem PySem.W PySem.W.X PySem.Calls PyProof.Rows PySem.SeqAt
namespace Mine
noncomputable def LS.at (t:LS) (q:TP):LS:={t with pv:=Int.ofNat q.pl,tp:=q.tp}
noncomputable def sh1:Nat→Nat | 0=>1 | n=>n
noncomputable def LS.as (t:LS) (k:Nat):LS:={t with sh:=k}
theorem LS.as_eq {t:LS} {k:Nat} (h:t.sh=k):t.as k=t:=by subst h; rfl
noncomputable def IN.ak (i:IN) (a:Addr):IN:={i with aK:=a}
theorem IN.ak_eq {i:IN} {a:Addr} (h:i.aK=a):i.ak a=i:=by subst h; rfl
noncomputable def LS.t1 (t:LS) (q:TP) (k:Nat) (c:CX) (o:Out):LS:={t.at q with sh:=k,aK:=c.base,sv:= -q.x,tsv:=o.dt 1 8,eF:=o.ep 1,g:=fun i=>o.kt 1 (6+i)}
noncomputable def IN.lsE (i:IN) (t:LS) (q:TP) (own:Str) (o:Out):LS:={i.ls (t.at q) with j:=t.j+1,own:=own,to:=o.dt 1 5}
structure PopS (P:LP) (w:World) (t:LS) (q:TP) (c:CX) (Z:Led) (k:Nat) (o:Out) (nx:X→Out→Prop):Prop where
  c1:isCut o (.call (.ref 98) ⟨[.ref P.aP],[]⟩) (([(P.aP,accO P.aD t.xs t.eP),(P.aD,sizeO w.params P.z P.kz P.tz P.eD)]:Led).map some) ((decide (-q.x>0)=true) :: P.cHead t q)
  k1:o.row.stk=(leftLoop P.aI P.aF,o.sp) :: c.out
  c2 : ∀ h:X,isCut (o.rest h.eff) (leftInLoop ((o.rest h.eff).ca 0) P.aF) (([((o.rest h.eff).ca 0,ritO 0 (Builtin.Range.rangeSize 0 (h.v+1) 1)),(P.aF,P.frame w.params (t.t1 q k c (o.rest h.eff))),(P.aP,accO P.aD t.xs t.eP),(P.aD,sizeO w.params P.z P.kz P.tz P.eD)]++Z:Led).map some) [Builtin.Range.small 0 (h.v+1) 1=true]
  k2 : ∀ h:X,(o.rest h.eff).row.stk=(leftLoop P.aI P.aF,(o.rest h.eff).sp) :: c.out
  a2 : ∀ h:X,(o.rest h.eff).ca 0=h.b+1
  n : ∀ h:X,nx h (o.rest h.eff)
structure MaxS (P:LP) (t:LS) (q:TP) (own:Str) (C:List Prop) (F:Out→Led) (o:Out):Prop where
  c:isCut o (.call (.builtin "max") ⟨[.int 0 (o.ct 0), .int (Int.ofNat t.own.length+q.x) (o.ct 1)],[]⟩) [] C
  n : ∀ m:X,isAgain (o.rest m.eff) (leftLoop P.aI P.aF) ((F (o.rest m.eff)).map some) ((slc (t.own++rep q.nm q.x) none (some (m.v,m.q))=own) :: [(slc (t.own++rep q.nm q.x) none (some (m.v,m.q))).length≤16777216])
noncomputable abbrev oraL (q:TP) (W own:Str) (e:List Nat):Ora:={exs:=[[],[2,3],e],vs:=q.vs,ln:=5,ss:=[W,own]}
noncomputable def nwN:IN→Nat→Nat→Led:=fun _ _ _=>[]
noncomputable def nwE:IN→Nat→Nat→Led:=fun i z1 z2=>[(i.aK,tupO [.str (S []) z1, .str (S []) z2] 0)]
noncomputable def cEnd (P:LP) (t:LS) (q:TP) (neg:Bool):List Prop:=(decide (Int.ofNat t.own.length+q.x<0)=neg) :: (cItem P.tdL (Int.ofNat q.pl) (.int q.x q.tx)++cLen t.own)
noncomputable def LS.lsB (t:LS) (q:TP) (k:Nat) (own:Str) (c:CX) (o:Out):LS:={t.t1 q k c o with j:=t.j+1,own:=own,to:=o.dt 1 5}
noncomputable def cEndB (P:LP) (t:LS) (q:TP):List Prop:=(decide (Int.ofNat t.own.length+q.x<0)=false) :: (cItem P.tdL (Int.ofNat q.pl) (.int q.x q.tx)++(cLen t.own++((decide (-q.x>0)=false) :: P.cHead t q)))
noncomputable def SpecA (P:LP) (w:World) (t:LS) (q:TP) (W own:Str) (c:CX) (k N:Nat):Prop:=
  MaxS P t q own (P.cRow t q++([t.xs.length≤1000]++((rep sp1 (- -q.x)=W) :: (cMul sp1 (- -q.x)++((decide (-q.x<0)=true) :: cEndB P t q)))))
    (fun o' => P.led w.params {t.lsB q k own c o' with xs:=t.xs++[.ref (c.base+6)],eP:=t.eP+1}++[(c.base+6,tupO [.str W (o'.dt 7 0), .str q.nm q.tn] 0)]) (P.run w t (oraL q W own [9,1,2,3]) c [0,1,2,3,4,5,6,13] [] N)
noncomputable def SpecB (P:LP) (w:World) (t:LS) (q:TP) (W own:Str) (c:CX) (k N:Nat):Prop:=
  MaxS P t q own (P.cRow t q++((decide (-q.x<0)=false) :: cEndB P t q)) (fun o' => P.led w.params (t.lsB q k own c o')) (P.run w t (oraL q W own [9,1,2,3]) c [0,1,2,3,4,5,6] [] N)
noncomputable def SpecDE (P:LP) (w:World) (t:LS) (q:TP) (W own:Str) (c:CX) (neg:Bool) (nw:IN→Nat→Nat→Led) (k N:Nat):Prop:=
  PopS P w t q c [] k (P.run w t (oraL q W own [9,1,2,3]) c [0,1,2,3,4,5,6] [] N) fun _ o => ∀ (i:IN) (z1 z2:Nat),
    MaxS P t q own (P.cRow t q++((decide (i.sv<0)=false) :: cEnd P t q neg)) (fun o' => P.led w.params (i.lsE t q own o')++[]) (o.rest (i.eff P w.params (t.at q) 9 (o.ca 0) (nw i z1 z2)))
noncomputable def SpecC (P:LP) (w:World) (t:LS) (q:TP) (W own:Str) (c:CX) (z:PQ) (k N:Nat):Prop:=
  PopS P w t q c z.led k (P.run w t (oraL q W own [10,1,2,3,7]) c [0,1,2,3,4,5,6,7,12] z.led N) fun _ o => ∀ i:IN,
    MaxS P t q own (P.cRow t q++([i.xs.length≤1000]++((rep sp1 (-i.sv)=W) :: (cMul sp1 (-i.sv)++((decide (i.sv<0)=true) :: cEnd P t q false)))))
      (fun o' => P.led w.params { (i.ak z.a).lsE t q own o' with xs:=i.xs++[.ref (i.b+1)],eP:=i.eP+1}++(z.led++[(i.b+1,tupO [.str W (o'.dt 8 0), .str z.n z.tn] 0)])) (o.rest ((i.ak z.a).eff P w.params (t.at q) 10 (o.ca 0) []))
noncomputable def N_la0:Nat:=(zz92+0x80000001<<<440+zz93<<<520+1<<<600+zz5<<<620+0x800000000300a0280a0000a0000a0000a<<<670+zz48<<<810+zz50<<<990+zz67<<<1040+2052<<<1230+0x20000200002008020020040000009<<<1300+0x38030080000c000340d0100300000000030000000003000000000303400000000340d0000d034000340d<<<1480+zz9<<<1820+zz94<<<1850+0x100802000020000f<<<2400)
theorem left_a0 (P:LP) (w:World) (t:LS) (q:TP) (W own:Str) (c:CX):SpecA P w (t.as 0) q W own c 1 N_la0:=⟨by kernel_rfl,fun m=>by kernel_rfl⟩
noncomputable def N_la1:Nat:=(zz92+0x80000001<<<440+zz93<<<520+1<<<600+zz5<<<620+0x800000000300a0280a0000a0000a0000a<<<670+zz48<<<810+zz50<<<990+zz67<<<1040+2052<<<1230+0x20000200002008020020040000009<<<1300+0x38030080000c000340d0100300000000030000000003000000000303400000000340d0000d034000340d<<<1480+zz9<<<1820+zz94<<<1850+0x100802000020000f<<<2400)
theorem left_a1 (P:LP) (w:World) (t:LS) (q:TP) (W own:Str) (c:CX):SpecA P w (t.as 1) q W own c 1 N_la1:=⟨by kernel_rfl,fun m=>by kernel_rfl⟩
noncomputable def N_la2:Nat:=(zz92+0x80000001<<<440+zz93<<<520+1<<<600+zz5<<<620+0x800000000300a0280a0000a0000a0000a<<<670+zz48<<<810+zz50<<<990+zz67<<<1040+2052<<<1230+0x20000200002008020020040000009<<<1300+0x38030080000c000340d0100300000000030000000003000000000303400000000340d0000d034000340d<<<1480+zz9<<<1820+zz94<<<1850+0x100802000020000f<<<2400)
theorem left_a2 (P:LP) (w:World) (t:LS) (q:TP) (W own:Str) (c:CX):SpecA P w (t.as 2) q W own c 2 N_la2:=⟨by kernel_rfl,fun m=>by kernel_rfl⟩
noncomputable def N_lb0:Nat:=(zz92+0x80000001<<<440+zz93<<<520+1<<<600+zz5<<<620+0x800000000300a0280a0000a0000a0000a<<<670+zz48<<<810+zz50<<<990+1<<<1040+zz2<<<1070+zz94<<<1110+0x100802000020000d<<<1660)
theorem left_b0 (P:LP) (w:World) (t:LS) (q:TP) (W own:Str) (c:CX):SpecB P w (t.as 0) q W own c 1 N_lb0:=⟨by kernel_rfl,fun m=>by kernel_rfl⟩
noncomputable def N_lb1:Nat:=(zz92+0x80000001<<<440+zz93<<<520+1<<<600+zz5<<<620+0x800000000300a0280a0000a0000a0000a<<<670+zz48<<<810+zz50<<<990+1<<<1040+zz2<<<1070+zz94<<<1110+0x100802000020000d<<<1660)
theorem left_b1 (P:LP) (w:World) (t:LS) (q:TP) (W own:Str) (c:CX):SpecB P w (t.as 1) q W own c 1 N_lb1:=⟨by kernel_rfl,fun m=>by kernel_rfl⟩
noncomputable def N_lb2:Nat:=(zz92+0x80000001<<<440+zz93<<<520+1<<<600+zz5<<<620+0x800000000300a0280a0000a0000a0000a<<<670+zz48<<<810+zz50<<<990+1<<<1040+zz2<<<1070+zz94<<<1110+0x100802000020000d<<<1660)
theorem left_b2 (P:LP) (w:World) (t:LS) (q:TP) (W own:Str) (c:CX):SpecB P w (t.as 2) q W own c 2 N_lb2:=⟨by kernel_rfl,fun m=>by kernel_rfl⟩
noncomputable def N_ld1:Nat:=(zz92+zz67<<<440+0x400004<<<630+zz93<<<730+0x2000000180a0000905c01<<<810+zz48<<<900+zz50<<<1080+1<<<1130+zz2<<<1160+zz94<<<1200+0x100802000020000b<<<1750)
theorem left_d1 (P:LP) (w:World) (t:LS) (q:TP) (W own:Str) (c:CX):SpecDE P w (t.as 1) q W own c false nwN 1 N_ld1:=
  ⟨by kernel_rfl,by kernel_rfl,fun h=>by kernel_rfl,fun h=>by kernel_rfl,fun h=>by kernel_rfl,fun h i z1 z2=>⟨by kernel_rfl,fun m=>by kernel_rfl⟩⟩
noncomputable def N_ld2:Nat:=(zz92+zz67<<<440+0x400004<<<630+zz93<<<730+0x2000000180a0000905c01<<<810+zz48<<<900+zz50<<<1080+1<<<1130+zz2<<<1160+zz94<<<1200+0x100802000020000b<<<1750)
theorem left_d2 (P:LP) (w:World) (t:LS) (q:TP) (W own:Str) (c:CX):SpecDE P w (t.as 2) q W own c false nwN 2 N_ld2:=
  ⟨by kernel_rfl,by kernel_rfl,fun h=>by kernel_rfl,fun h=>by kernel_rfl,fun h=>by kernel_rfl,fun h i z1 z2=>⟨by kernel_rfl,fun m=>by kernel_rfl⟩⟩
noncomputable def N_le0:Nat:=(zz92+zz67<<<440+0x400004<<<630+zz93<<<730+0x2000000180a0000905c01<<<810+zz48<<<900+0x4020000c02c050040b0300b000020040000001<<<1080+zz2<<<1260+zz94<<<1300+0x100802000020000d<<<1850)
theorem left_e0 (P:LP) (w:World) (t:LS) (q:TP) (W own:Str) (c:CX):SpecDE P w (t.as 0) q W own c true nwE 1 N_le0:=
  ⟨by kernel_rfl,by kernel_rfl,fun h=>by kernel_rfl,fun h=>by kernel_rfl,fun h=>by kernel_rfl,fun h i z1 z2=>⟨by kernel_rfl,fun m=>by kernel_rfl⟩⟩
noncomputable def N_le1:Nat:=(zz92+zz67<<<440+0x400004<<<630+zz93<<<730+0x2000000180a0000905c01<<<810+zz48<<<900+0x4020000c02c050040b0300b000020040000001<<<1080+zz2<<<1260+zz94<<<1300+0x100802000020000d<<<1850)
theorem left_e1 (P:LP) (w:World) (t:LS) (q:TP) (W own:Str) (c:CX):SpecDE P w (t.as 1) q W own c true nwE 1 N_le1:=
  ⟨by kernel_rfl,by kernel_rfl,fun h=>by kernel_rfl,fun h=>by kernel_rfl,fun h=>by kernel_rfl,fun h i z1 z2=>⟨by kernel_rfl,fun m=>by kernel_rfl⟩⟩
noncomputable def N_le2:Nat:=(zz92+zz67<<<440+0x400004<<<630+zz93<<<730+0x2000000180a0000905c01<<<810+zz48<<<900+0x4020000c02c050040b0300b000020040000001<<<1080+zz2<<<1260+zz94<<<1300+0x100802000020000d<<<1850)
theorem left_e2 (P:LP) (w:World) (t:LS) (q:TP) (W own:Str) (c:CX):SpecDE P w (t.as 2) q W own c true nwE 2 N_le2:=
  ⟨by kernel_rfl,by kernel_rfl,fun h=>by kernel_rfl,fun h=>by kernel_rfl,fun h=>by kernel_rfl,fun h i z1 z2=>⟨by kernel_rfl,fun m=>by kernel_rfl⟩⟩
noncomputable def N_lc1:Nat:=(zz92+zz67<<<440+0x400004<<<630+0x2000000180b0000a05c010280a02800028000280a<<<730+zz48<<<900+zz50<<<1080+zz67<<<1130+2052<<<1320+0x20000200002008020020040000009<<<1390+0x34030080000c000300c0100300000000030000000003000000000303000000000300c0000c030000300c<<<1570+zz9<<<1910+zz94<<<1940+0x100802000020000e<<<2490)
theorem left_c1 (P:LP) (w:World) (t:LS) (q:TP) (W own:Str) (c:CX) (z:PQ):SpecC P w (t.as 1) q W own c z 1 N_lc1:=
  ⟨by kernel_rfl,by kernel_rfl,fun h=>by kernel_rfl,fun h=>by kernel_rfl,fun h=>by kernel_rfl,fun h i=>⟨by kernel_rfl,fun m=>by kernel_rfl⟩⟩
noncomputable def N_lc2:Nat:=(zz92+zz67<<<440+0x400004<<<630+0x2000000180b0000a05c010280a02800028000280a<<<730+zz48<<<900+zz50<<<1080+zz67<<<1130+2052<<<1320+0x20000200002008020020040000009<<<1390+0x34030080000c000300c0100300000000030000000003000000000303000000000300c0000c030000300c<<<1570+zz9<<<1910+zz94<<<1940+0x100802000020000e<<<2490)
theorem left_c2 (P:LP) (w:World) (t:LS) (q:TP) (W own:Str) (c:CX) (z:PQ):SpecC P w (t.as 2) q W own c z 2 N_lc2:=
  ⟨by kernel_rfl,by kernel_rfl,fun h=>by kernel_rfl,fun h=>by kernel_rfl,fun h=>by kernel_rfl,fun h i=>⟨by kernel_rfl,fun m=>by kernel_rfl⟩⟩
end Mine
end
section
open PySem PySem.W PySem.W.X PySem.Calls PyProof.Rows PySem.SeqAt
namespace Mine
noncomputable def PQ.c (z:PQ):Nat:=z.n.cps.getD 0 0
noncomputable def ownL:List PQ→List Nat
  | []=>[]
  | z :: ps=>ownL ps++List.replicate z.w.length z.c
theorem popN_empty : ∀ (r:Nat) (sv:Int),0<sv→popN (r+1) sv []=(sv,[], .none_)
  | 0,sv,h=>by
    show (if 0<sv then _ else _)=_
    rw [if_pos h]; rfl
  | r+1,sv,h=>by
    show (if 0<sv then ((popN (r+1) sv []).1,(popN (r+1) sv []).2.1,(popN (r+1) sv []).2.2.or .none_) else _)=_
    rw [if_pos h,popN_empty r sv h]; rfl
theorem popN_done : ∀ (r:Nat) (sv:Int) (ps:List PQ),¬ 0<sv→popN r sv ps=(sv,ps, .same)
  | 0,_,_,_=>rfl
  | r+1,sv,ps,h=>by
    show (if 0<sv then _ else popN r sv ps)=_
    rw [if_neg h,popN_done r sv ps h]
theorem popN_spec : ∀ (ps:List PQ) (r:Nat) (sv:Int),0<sv→ps.length+1≤r →
    (((ownL ps).length:Int)<sv∧popN r sv ps=(sv - (ownL ps).length,[], .none_)) ∨
    (sv≤(ownL ps).length ∧ ∃ sv' ps1 z,popN r sv ps=(sv',ps1, .part z)∧sv' ≤ 0∧z∈ps∧(∃ qs,ps=qs++z :: ps1) ∧ -sv' < z.w.length∧(ownL ps).take ((ownL ps).length - sv.toNat)=ownL ps1++List.replicate (-sv').toNat z.c)
  | [],r,sv,h,hr=>by
    obtain ⟨r,rfl⟩ : ∃ q,r=q+1:=⟨r - 1,by simp at hr; lia⟩
    refine .inl ⟨by simpa [ownL] using h, ?_⟩
    rw [popN_empty r sv h]
    simp [ownL]
  | z :: ps,r,sv,h,hr=>by
    obtain ⟨r,rfl⟩ : ∃ q,r=q+1:=⟨r - 1,by simp at hr; lia⟩
    have e:popN (r+1) sv (z :: ps)=((popN r (sv - Int.ofNat z.w.length) ps).1,(popN r (sv - Int.ofNat z.w.length) ps).2.1,(popN r (sv - Int.ofNat z.w.length) ps).2.2.or (.part z)):=by
      show (if 0<sv then _ else _)=_
      rw [if_pos h]
    have hlen:(ownL (z :: ps)).length=(ownL ps).length+z.w.length:=by simp [ownL]
    by_cases h1:0<sv - Int.ofNat z.w.length
    · have hr' : ps.length+1≤r:=by simp only [List.length_cons] at hr; lia
      rcases popN_spec ps r (sv - Int.ofNat z.w.length) h1 hr' with ⟨a1,a2⟩ | ⟨a1,sv',ps1,y,a2,a3,a4,⟨qs,a5⟩,a6,a7⟩
      · refine .inl ⟨by rw [hlen]; push_cast; have:(Int.ofNat z.w.length)=(z.w.length:Int):=rfl; lia, ?_⟩
        rw [e,a2,hlen]
        have:sv - Int.ofNat z.w.length - ((ownL ps).length:Int)=sv - (((ownL ps).length+z.w.length:Nat):Int):=by
          have:(Int.ofNat z.w.length)=(z.w.length:Int):=rfl
          push_cast; lia
        rw [this]; rfl
      · refine .inr ⟨by rw [hlen]; push_cast; have:(Int.ofNat z.w.length)=(z.w.length:Int):=rfl; lia,sv',ps1,y,by rw [e,a2]; rfl,a3, .tail _ a4,⟨z :: qs,by rw [a5]; rfl⟩,a6, ?_⟩
        rw [← a7,hlen]
        have hz:(Int.ofNat z.w.length)=(z.w.length:Int):=rfl
        have e2:(ownL ps).length+z.w.length - sv.toNat=(ownL ps).length - (sv - Int.ofNat z.w.length).toNat:=by lia
        rw [e2]
        show List.take _ (ownL ps++_)=_
        rw [List.take_append_of_le_length (by lia)]
    · refine .inr ⟨by rw [hlen]; push_cast; have:(Int.ofNat z.w.length)=(z.w.length:Int):=rfl; lia,sv - Int.ofNat z.w.length,ps,z,by rw [e,popN_done _ _ _ h1]; rfl,by lia, .head _,⟨[],rfl⟩,by have:(Int.ofNat z.w.length)=(z.w.length:Int):=rfl; lia, ?_⟩
      have hz:(Int.ofNat z.w.length)=(z.w.length:Int):=rfl
      rw [hlen]
      show List.take _ (ownL ps++_)=_
      rw [List.take_append,List.take_of_length_le (by lia),List.take_replicate]
      congr 2
      lia
theorem rep_one (c:Nat) (n:Int):(rep ⟨#[c]⟩ n).cps.toList=List.replicate n.toNat c:=by
  unfold rep
  by_cases h:n<1
  · rw [if_pos h,show n.toNat=0 by lia]; rfl
  · rw [if_neg h]
    by_cases h2:n=1
    · subst h2; rfl
    · have:(n == 1 || (⟨#[c]⟩:Str).length == 0)=false:=by
        rw [Bool.or_eq_false_iff]; exact ⟨beq_eq_false_iff_ne.mpr h2,rfl⟩
      rw [this]
      simp only [Bool.false_eq_true,if_false]
      have key : ∀ (k:Nat) (a:Array Nat),((List.replicate k #[c]).foldl (· ++ ·) a).toList=a.toList++List.replicate k c:=by
        intro k
        induction k with
        | zero=>intro a; simp
        | succ k ih=>intro a; rw [List.replicate_succ,List.foldl_cons,ih,Array.toList_append,List.append_assoc]; rfl
      rw [key]; simp
theorem rep_len (c:Nat) (n:Int):(rep ⟨#[c]⟩ n).length=n.toNat:=by
  show (rep ⟨#[c]⟩ n).cps.size=_
  rw [← Array.length_toList,rep_one,List.length_replicate]
theorem range_pick (a n:Nat) (l:List Nat):((List.range n).map (fun k=>a+k)).filterMap (fun i=>l[i]?)=(l.drop a).take n:=by
  induction n generalizing a with
  | zero=>simp
  | succ n ih =>
    rw [List.range_succ_eq_map,List.map_cons,List.map_map,List.filterMap_cons]
    have e:((fun k=>a+k) ∘ Nat.succ)=fun k=>(a+1)+k:=by funext k; simp only [Function.comp]; lia
    rw [e,ih (a+1)]
    by_cases h:a<l.length
    · rw [Nat.add_zero,List.getElem?_eq_getElem h]
      rw [List.drop_eq_getElem_cons h,List.take_succ_cons]
    · rw [Nat.add_zero,List.getElem?_eq_none (by lia)]
      rw [List.drop_eq_nil_of_le (by lia),List.drop_eq_nil_of_le (by lia)]
      simp
theorem picked_list (x:Str) (l u:Option (Int × Nat)) (a b:Nat) (hl:(l=none∧a=0) ∨ ∃ t,l=some ((a:Int),t)) (hu:(u=none∧b=x.length) ∨ ∃ t,u=some ((b:Int),t)) (hab:a≤b) :
    ∃ n,slicePicked x l u none=(List.range n).map (fun k=>min a x.length+k)∧n=min b x.length - min a x.length:=by
  have ha : ¬ ((a:Int)<0):=by omega
  have hb : ¬ ((b:Int)<0):=by omega
  have one:((1:Int)>0)=True:=by simp
  have e:slicePicked x l u none=sliceRange (min (a:Int) x.length) (min (b:Int) x.length) 1:=by
    unfold slicePicked Builtin.Str.strSliceIndices
    rcases hl with ⟨rfl,rfl⟩ | ⟨t,rfl⟩ <;> rcases hu with ⟨rfl,rfl⟩ | ⟨t',rfl⟩
    all_goals
      simp only [Option.map_none,Option.map_some,Option.getD_none,ha,hb,one,if_true,if_false]
      congr 1 <;> omega
  refine ⟨_, ?_,rfl⟩
  rw [e]
  unfold sliceRange
  simp only [one,if_true]
  by_cases q:(min (a:Int) x.length)<(min (b:Int) x.length)
  · rw [if_pos q,Int.ediv_one]
    have e3:(min (b:Int) x.length - min (a:Int) x.length+1 - 1).toNat=min b x.length - min a x.length:=by omega
    rw [e3]
    refine List.map_congr_left fun k _ => ?_
    omega
  · rw [if_neg q]
    have e3:min b x.length - min a x.length=0:=by omega
    rw [e3]
    rfl
theorem slc_list (x:Str) (l u:Option (Int × Nat)) (a b:Nat) (hl:(l=none∧a=0) ∨ ∃ t,l=some ((a:Int),t)) (hu:(u=none∧b=x.length) ∨ ∃ t,u=some ((b:Int),t)) (hab:a≤b) :
    (slc x l u).cps.toList=(x.cps.toList.take b).drop a:=by
  obtain ⟨n,h1,h2⟩:=picked_list x l u a b hl hu hab
  have hx:x.length=x.cps.toList.length:=by simp [Str.length]
  have key:(slicePicked x l u none).filterMap (x.cps[·]?)=(x.cps.toList.take b).drop a:=by
    rw [h1]
    have:(fun i:Nat=>x.cps[i]?)=fun i:Nat=>x.cps.toList[i]? :=by funext i; simp
    rw [this,range_pick,h2,List.drop_take,hx]
    by_cases q:a≤x.cps.toList.length
    · rw [show min a x.cps.toList.length=a by omega]
      by_cases q2:b≤x.cps.toList.length
      · rw [show min b x.cps.toList.length=b by omega]
      · rw [List.take_of_length_le (by rw [List.length_drop]; omega),List.take_of_length_le (by rw [List.length_drop]; omega)]
    · rw [show min a x.cps.toList.length=x.cps.toList.length by omega,List.drop_length,List.drop_eq_nil_of_le (by omega)]
      simp
  unfold slc
  cases q:(slicePicked x l u none).length == x.length with
  | false=>show ((slicePicked x l u none).filterMap (x.cps[·]?)).toArray.toList=_; rw [key]
  | true =>
    show x.cps.toList=_
    have hn:n=x.cps.toList.length:=by
      have:=beq_iff_eq.mp q
      rw [h1,List.length_map,List.length_range] at this
      rw [this,hx]
    refine (List.Sublist.eq_of_length ((List.drop_sublist _ _).trans (List.take_sublist _ _)) ?_).symm
    rw [List.length_drop,List.length_take]
    omega
theorem slc_len (x:Str) (l u:Option (Int × Nat)) (a b:Nat) (hl:(l=none∧a=0) ∨ ∃ t,l=some ((a:Int),t)) (hu:(u=none∧b=x.length) ∨ ∃ t,u=some ((b:Int),t)) (hab:a≤b):(slc x l u).length≤x.length:=by
  have:=slc_list x l u a b hl hu hab
  have e:(slc x l u).length=(slc x l u).cps.toList.length:=by simp [Str.length]
  rw [e,this,List.length_drop,List.length_take]
  have:x.length=x.cps.toList.length:=by simp [Str.length]
  omega
end Mine
end
section
open PySem PySem.W PySem.W.X PySem.Calls PyProof.Rows PySem.SeqAt
namespace Mine
theorem ownL_len : ∀ (ps:List PQ),(∀ z∈ps,z.w.length≤30)→(ownL ps).length≤30*ps.length
  | [],_=>Nat.le_refl _
  | z :: ps,h=>by
    have:=ownL_len ps fun y hy=>h y (.tail _ hy)
    have:=h z (.head _)
    simp only [ownL,List.length_append,List.length_replicate,List.length_cons]
    lia
structure LInv (P:LP) (w:World) (s:Shared) (t:LS) (ps:List PQ):Prop where
  R:Ready w s (P.led w.params t)
  parts:AllAt s (partsL ps)
  nd:((P.led w.params t).as++ps.map (·.a)).Nodup
  hk : ∀ z∈ps,(ktP w.params).get z.a=none
  xs:t.xs=xsOf ps
  own:t.own.cps.toList=ownL ps
  nm : ∀ z∈ps,∃ c,z.n=⟨#[c]⟩
  wl : ∀ z∈ps,z.w.length≤30
  np:ps.length≤t.j
  j4:t.j≤4
  sh:(t.sh=0∧ps=[])∨t.sh=1∨t.sh=2
  sh0:t.j≠0→t.sh=1∨t.sh=2
  lo : ∀ z∈ps,P.lb≤z.a
  lsz:P.lb≤s.heap.objs.size
structure TPok (P:LP) (t:LS) (q:TP):Prop where
  ord:P.ordL[t.j]? = some (.int (Int.ofNat q.pl) q.tp)
  nmL:P.nmL[q.pl]? = some (.str q.nm q.tn)
  tdL:P.tdL[q.pl]? = some (.int q.x q.tx)
  nm : ∃ c,q.nm=⟨#[c]⟩
  pl:q.pl<1000
  lo : -30≤q.x
  hi:q.x≤30
theorem LInv.olen {P:LP} {w:World} {s:Shared} {t:LS} {ps:List PQ} (I:LInv P w s t ps):t.own.length=(ownL ps).length:=by
  rw [← I.own]; simp [Str.length]
theorem LInv.olen_le {P:LP} {w:World} {s:Shared} {t:LS} {ps:List PQ} (I:LInv P w s t ps):t.own.length≤120:=by
  have h1:=ownL_len ps I.wl
  have h2:=I.np
  have h3:=I.j4
  rw [I.olen]; lia
theorem TPok.head {P:LP} {t:LS} {q:TP} (T:TPok P t q):AllP (P.cHead t q):=by
  have hp:=T.pl
  refine AllP.app ?_ (AllP.app ?_ ?_)
  · exact AllP.cons (by show (0:Int)≤(q.pl:Int); lia) (AllP.cons (by show (q.pl:Int)<1000; lia) (AllP.cons T.tdL .nil))
  · exact AllP.cons (by show (0:Int)≤(q.pl:Int); lia) (AllP.cons (by show (q.pl:Int)<1000; lia) (AllP.cons T.nmL .nil))
  · exact AllP.cons (by show (0:Int)≤(t.j:Int); lia) (AllP.cons T.ord .nil)
theorem TPok.td {P:LP} {t:LS} {q:TP} (T:TPok P t q):AllP (cItem P.tdL (Int.ofNat q.pl) (.int q.x q.tx)):=by
  have hp:=T.pl
  exact AllP.cons (by show (0:Int)≤(q.pl:Int); lia) (AllP.cons (by show (q.pl:Int)<1000; lia) (AllP.cons T.tdL .nil))
theorem TPok.nml {P:LP} {t:LS} {q:TP} (T:TPok P t q):AllP (cItem P.nmL (Int.ofNat q.pl) (.str q.nm q.tn)):=by
  have hp:=T.pl
  exact AllP.cons (by show (0:Int)≤(q.pl:Int); lia) (AllP.cons (by show (q.pl:Int)<1000; lia) (AllP.cons T.nmL .nil))
theorem TPok.row {P:LP} {t:LS} {q:TP} (T:TPok P t q) (h:t.own.length≤120):AllP (P.cRow t q):=by
  obtain ⟨c,hc⟩:=T.nm
  have h1:=T.lo
  have h2:=T.hi
  have hr:(rep q.nm q.x).length=q.x.toNat:=by rw [hc]; exact rep_len c q.x
  have hn:q.nm.length=1:=by rw [hc]; rfl
  refine AllP.app T.td (AllP.app ?_ (AllP.app ?_ (AllP.app ?_ (AllP.app T.td T.nml))))
  · exact AllP.cons (by lia) .nil
  · exact AllP.cons (by rw [hr]; lia) .nil
  · exact AllP.cons (by lia) (AllP.cons (by lia) .nil)
noncomputable def newOwn (t:LS) (q:TP):Str:=slc (t.own++rep q.nm q.x) none (some (max 0 (Int.ofNat t.own.length+q.x),0))
theorem newOwn_list {P:LP} {t:LS} {q:TP} (T:TPok P t q):(newOwn t q).cps.toList=(t.own.cps.toList++List.replicate q.x.toNat ((q.nm.cps.getD 0 0))).take (max 0 (Int.ofNat t.own.length+q.x)).toNat:=by
  obtain ⟨c,hc⟩:=T.nm
  unfold newOwn
  have e:=slc_list (t.own++rep q.nm q.x) none (some (max 0 (Int.ofNat t.own.length+q.x),0)) 0 (max 0 (Int.ofNat t.own.length+q.x)).toNat (.inl ⟨rfl,rfl⟩) (.inr ⟨0,by congr 2; lia⟩) (Nat.zero_le _)
  rw [e,List.drop_zero]
  congr 1
  show (t.own.cps++(rep q.nm q.x).cps).toList=_
  rw [Array.toList_append,hc,rep_one]
  rfl
theorem ok_max {w:World} {ol:Stk} {ids:List Nat} {g:Gh} {r:Ora} {Q:Result ⊕ Code→Shared→Prop} {o:Out} {v:Int} {CS:List Prop} (h:isCut o (.call (.builtin "max") ⟨[.int 0 (o.ct 0), .int v (o.ct 1)],[]⟩) [] CS) (hc:AllP CS)
    (hn : ∀ m:X,m.v=max 0 v→OutOk (Vk w ol ids g r) Q (o.rest m.eff)):OutOk (Vk w ol ids g r) Q o:=by
  refine ok_pcut (R:=fun r => ∃ t',r = .ok (.ret (.int (max 0 v) t'))) h hc (fun s p O base off tk P _ hO => ?_) (fun r b k g ht => ?_)
  · obtain ⟨q,s',hE,hK⟩:=call_max (w:=w) hO (s:=s) (a:=0) (b:=v) (t:=_) (u:=_)
    exact ⟨_,s',hE,hK,q,rfl⟩
  · obtain ⟨t',rfl⟩:=ht
    exact hn ⟨_,t',b,k,g⟩ rfl
theorem sl_cond (t:LS) (q:TP) (m:X) (hm:m.v=max 0 (Int.ofNat t.own.length+q.x)) (h:(newOwn t q).length≤16777216):AllP ((slc (t.own++rep q.nm q.x) none (some (m.v,m.q))=newOwn t q) :: [(slc (t.own++rep q.nm q.x) none (some (m.v,m.q))).length≤16777216]):=by
  obtain ⟨v,tq,b,k,g⟩:=m
  simp only at hm
  subst hm
  exact AllP.cons rfl (AllP.cons h .nil)
theorem newOwn_le {P:LP} {t:LS} {q:TP} (T:TPok P t q) (ho:t.own.length≤120):(newOwn t q).length≤16777216:=by
  have hhi:=T.hi
  have e:=newOwn_list T
  have:(newOwn t q).length=(newOwn t q).cps.toList.length:=by simp [Str.length]
  rw [this,e,List.length_take,List.length_append,List.length_replicate]
  have:t.own.cps.toList.length=t.own.length:=by simp [Str.length]
  lia
theorem turn_a {P:LP} {w:World} {c0:CX} {s:Shared} {t:LS} {q:TP} {p:Pos} {O:List Frame} {N k:Nat} (F : ∀ (W own:Str) (c:CX),SpecA P w t q W own c k N) (hk:k=1∨k=2)
    (R:Ready w s (P.led w.params t)) (T:TPok P t q) (hO:OutIs O c0.out) (ho:t.own.length≤120) (hx:t.xs.length≤100) (hq:0<q.x) :
    ∃ s' p' T' tw,Comes (model pw w) s ⟨(model pw w).den (leftLoop P.aI P.aF),leftLoop P.aI P.aF,p,O⟩ s' ⟨(model pw w).den (leftLoop P.aI P.aF),leftLoop P.aI P.aF,p',O⟩∧Kept s s' (P.led w.params t).as ∧
      AllAt s' (P.led w.params T' ++ [(s.heap.objs.size+6,tupO [.str (rep sp1 q.x) tw, .str q.nm q.tn] 0)])∧T'.j=t.j+1∧T'.own=newOwn t q∧T'.xs=t.xs++[.ref (s.heap.objs.size+6)]∧(T'.sh=1∨T'.sh=2):=by
  have hW:rep sp1 (- -q.x)=rep sp1 q.x:=by rw [Int.neg_neg]
  have hlo:=T.lo
  have hhi:=T.hi
  have hno:=newOwn_le T ho
  obtain ⟨s',p',hC,hK,T',tw,hA,h1,h2,h3,h4⟩:=seg_turn (N:=N) (fuel:=700) (p:=p) (ids:=[0,1,2,3,4,5,6,13]) (r:={exs:=[[],[2,3],[9,1,2,3]],vs:=q.vs,ln:=5,ss:=[rep sp1 q.x,newOwn t q]}) (L:=P.led w.params t++[])
    (P:=fun s' => Kept s s' (P.led w.params t++[]:Led).as ∧ ∃ T' tw,AllAt s' (P.led w.params T' ++ [(s.heap.objs.size+6,tupO [.str (rep sp1 q.x) tw, .str q.nm q.tn] 0)])∧T'.j=t.j+1∧T'.own=newOwn t q∧T'.xs=t.xs++[.ref (s.heap.objs.size+6)]∧(T'.sh=1∨T'.sh=2))
    (c' :=leftLoop P.aI P.aF) (by rw [List.append_nil]; exact R) hO (by decide) no_alts (by
      have F:=F (rep sp1 q.x) (newOwn t q) ⟨c0.b,c0.e,c0.p',c0.o,ghO s (P.led w.params t++[]),s.heap.objs.size,s.toks,s.gens.size,p⟩
      refine ok_max F.c ?_ fun m hm => ?_
      · refine AllP.app (T.row ho) (AllP.app (AllP.cons (by lia) .nil) (AllP.cons hW (AllP.app ?_ (AllP.cons (decide_eq_true (by lia)) (AllP.cons (decide_eq_false ?_) (AllP.app T.td (AllP.app (AllP.cons (by lia) .nil) (AllP.cons (decide_eq_false (by lia)) T.head))))))))
        · exact AllP.cons (by lia) (AllP.cons (by decide) .nil)
        · show ¬ ((t.own.length:Int)+q.x<0); lia
      · exact ok_again (F.n m) (sl_cond t q m hm hno) fun s' _ _ _ gb P' hb=>⟨rfl,kept_of (Ready.starts (by rw [List.append_nil]; exact R)) P' hb,_,_,all_of P',rfl,rfl,rfl,hk⟩)
  rw [List.append_nil] at hK
  exact ⟨s',p',T',tw,hC,hK,hA,h1,h2,h3,h4⟩
theorem turn_b {P:LP} {w:World} {c0:CX} {s:Shared} {t:LS} {q:TP} {p:Pos} {O:List Frame} {N k:Nat} (F : ∀ (W own:Str) (c:CX),SpecB P w t q W own c k N) (hk:k=1∨k=2)
    (R:Ready w s (P.led w.params t)) (T:TPok P t q) (hO:OutIs O c0.out) (ho:t.own.length≤120) (hq:q.x=0) :
    ∃ s' p' T',Comes (model pw w) s ⟨(model pw w).den (leftLoop P.aI P.aF),leftLoop P.aI P.aF,p,O⟩ s' ⟨(model pw w).den (leftLoop P.aI P.aF),leftLoop P.aI P.aF,p',O⟩∧Kept s s' (P.led w.params t).as ∧
      AllAt s' (P.led w.params T')∧T'.j=t.j+1∧T'.own=newOwn t q∧T'.xs=t.xs∧(T'.sh=1∨T'.sh=2):=by
  have hno:=newOwn_le T ho
  obtain ⟨s',p',hC,hK,T',hA,h1,h2,h3,h4⟩:=seg_turn (N:=N) (fuel:=700) (p:=p) (ids:=[0,1,2,3,4,5,6]) (r:={exs:=[[],[2,3],[9,1,2,3]],vs:=q.vs,ln:=5,ss:=[S [],newOwn t q]}) (L:=P.led w.params t++[])
    (P:=fun s' => Kept s s' (P.led w.params t++[]:Led).as ∧ ∃ T',AllAt s' (P.led w.params T')∧T'.j=t.j+1∧T'.own=newOwn t q∧T'.xs=t.xs∧(T'.sh=1∨T'.sh=2))
    (c' :=leftLoop P.aI P.aF) (by rw [List.append_nil]; exact R) hO (by decide) no_alts (by
      have F:=F (S []) (newOwn t q) ⟨c0.b,c0.e,c0.p',c0.o,ghO s (P.led w.params t++[]),s.heap.objs.size,s.toks,s.gens.size,p⟩
      refine ok_max F.c ?_ fun m hm => ?_
      · refine AllP.app (T.row ho) (AllP.cons (decide_eq_false (by lia)) (AllP.cons (decide_eq_false ?_) (AllP.app T.td (AllP.app (AllP.cons (by lia) .nil) (AllP.cons (decide_eq_false (by lia)) T.head)))))
        · show ¬ ((t.own.length:Int)+q.x<0); lia
      · exact ok_again (F.n m) (sl_cond t q m hm hno) fun s' _ _ _ gb P' hb=>⟨rfl,kept_of (Ready.starts (by rw [List.append_nil]; exact R)) P' hb,_,all_of P',rfl,rfl,rfl,hk⟩)
  rw [List.append_nil] at hK
  exact ⟨s',p',T',hC,hK,hA,h1,h2,h3,h4⟩
end Mine
end
section
open PySem PySem.W PySem.W.X PySem.Calls PyProof.Rows PySem.SeqAt
namespace Mine
theorem range_size (n:Nat):Builtin.Range.rangeSize 0 (Int.ofNat n+1) 1=Int.ofNat (n+1):=by
  have hn:(Int.ofNat n)=(n:Int):=rfl
  have hn1:(Int.ofNat (n+1))=(n:Int)+1:=rfl
  unfold Builtin.Range.rangeSize
  rw [hn,hn1,if_pos (by decide),if_pos (by lia),Int.ediv_one]
  lia
theorem range_small (n:Nat) (h:n≤1000):Builtin.Range.small 0 (Int.ofNat n+1) 1=true:=by
  unfold Builtin.Range.small
  rw [range_size]
  have hn:(Int.ofNat n)=(n:Int):=rfl
  have hn1:(Int.ofNat (n+1))=(n:Int)+1:=rfl
  rw [hn,hn1]
  have e : ∀ z:Int, -9223372036854775808≤z→z<9223372036854775808→Builtin.Range.rangeFitsLong z=true:=fun z h1 h2=>by
    unfold Builtin.Range.rangeFitsLong
    simp [h1,h2]
  rw [e 0 (by lia) (by lia),e ((n:Int)+1) (by lia) (by lia),e 1 (by lia) (by lia)]
  simp only [Bool.and_self,Bool.true_and,Bool.or_eq_true]
  right
  rw [if_pos (by decide)]
  exact e _ (by lia) (by lia)
noncomputable def inOf (t:LS) (v:Int) (b k g:Nat):IN:=⟨t.xs,t.eP,t.eF,t.aK,t.sv,t.tsv,t.tv,t.ttv,t.g,v,b,k,g⟩
theorem inOf_ls {t t1 t3:LS} {q:TP} {xs:List Value} {sv:Int} {v:Int} {b k g:Nat} (h:Turned t1 t3 xs sv t3.aK) (hj:t1.j=t.j) (ho:t1.own=t.own) (hto:t1.to=t.to) (hp:t1.pv=Int.ofNat q.pl) (ht:t1.tp=q.tp):(inOf t3 v b k g).ls (t.at q)=t3:=by
  obtain ⟨sh,j,own,to,xs',eP,eF,pv,tp,aK,sv',tsv,tv,ttv,gg⟩:=t3
  obtain ⟨e1,e2,e3,e4,e5,e6,e7,e8,e9⟩:=h
  simp only at e1 e2 e3 e4 e5 e6
  subst e1
  rw [e2,e3,e4,e5,e6,hj,ho,hto,hp,ht]
  rfl
theorem eff_inner {P:LP} {w:World} {s2 s3:Shared} {t1 t3:LS} {aR:Addr} {v0 v:Int} {ix:Nat} {new:Led} (hls:P.frame w.params t3=P.frame w.params t3) (K:Kept s2 s3 (P.inL w.params t1 aR v0 0).as) (hD:s2.heap.get? P.aD=some (sizeO w.params P.z P.kz P.tz P.eD)) (hA:AllAt s3 (P.inL w.params t3 aR v 0)) (hn:AllAt s3 new) (hlo : ∀ x∈new,s2.heap.objs.size≤x.1) (nd:new.as.Nodup) (hix:[ix,1,2].Nodup) :
    EffOk ⟨.ok .next,[(ix,aR,ritO v 0),(1,P.aF,P.frame w.params t3),(2,P.aP,accO P.aD t3.xs t3.eP)],new,s3.heap.objs.size,s3.toks,s3.gens.size⟩ s2 s3:=by
  have K' : Kept s2 s3 (Led.as [(aR,ritO v 0),(P.aF,P.frame w.params t3),(P.aP,accO P.aD t3.xs t3.eP)]):=
    Kept.drop (L:=[(aR,ritO v 0),(P.aF,P.frame w.params t3),(P.aP,accO P.aD t3.xs t3.eP)]) (M:=[(P.aD,sizeO w.params P.z P.kz P.tz P.eD)]) K (fun x hx=>by
      rcases List.mem_cons.mp hx with rfl | hx
      · exact hD
      · exact nomatch hx) (fun x hx=>hA x (List.mem_append_right [(aR,ritO v 0),(P.aF,P.frame w.params t3),(P.aP,accO P.aD t3.xs t3.eP)] hx))
  exact eff_of (ix:=[ix,1,2]) (F:=[(aR,ritO v 0),(P.aF,P.frame w.params t3),(P.aP,accO P.aD t3.xs t3.eP)]) K' (fun x hx=>hA x (List.mem_append_left [(P.aD,sizeO w.params P.z P.kz P.tz P.eD)] hx)) hn hlo nd hix rfl
noncomputable def PcNew (i:IN) (new:Led):Pc→Prop
  | .same=>new=[]
  | .part z=>i.aK=z.a∧new=[]
  | .none_ => ∃ z1 z2,new=[(i.aK,emptyO z1 z2)]
theorem pst_ap {V:Cfg} {s:Shared} {F:Led} {base off tk:Nat} (P : ∃ ids gb,Pst V s ids (F.map some) base off tk gb) : ∀ x∈F,V.kt.get x.1=none:=by
  obtain ⟨ids,gb,P⟩:=P
  exact fun x hx=>(P.at' (some x) x.1 x.2 (List.mem_map.mpr ⟨x,hx,rfl⟩) rfl).2.1
structure T1ok (t t1:LS) (q:TP):Prop where
  xs:t1.xs=t.xs
  eP:t1.eP=t.eP
  sv:t1.sv = -q.x
  sh:t1.sh=1∨t1.sh=2
  j:t1.j=t.j
  own:t1.own=t.own
  to:t1.to=t.to
  pv:t1.pv=Int.ofNat q.pl
  tp:t1.tp=q.tp
theorem t1_ok (t:LS) (q:TP) {k:Nat} (hk:k=1∨k=2) (c:CX) (o:Out):T1ok t (t.t1 q k c o) q:=⟨rfl,rfl,rfl,hk,rfl,rfl,rfl,rfl,rfl⟩
theorem ok_pops {P:LP} {w:World} {c0:CX} {s:Shared} {t:LS} {q:TP} {ps:List PQ} {Z:Led} {ids:List Nat} {r:Ora} {Q:Result ⊕ Code→Shared→Prop} {o:Out} {ix k:Nat} {nx:X→Out→Prop} (F:PopS P w t q c0 Z k o nx) (hk:k=1∨k=2)
    (I:LInv P w s t ps) (T:TPok P t q) (hq:q.x<0) (hZ : ∀ x∈Z,x∈partsL ps) (hix:[ix,1,2].Nodup)
    (hn : ∀ (h:X) (i:IN) (new:Led),h.v=Int.ofNat t.xs.length→i.xs=xsOf (popN (ps.length+1) (-q.x) ps).2.1→i.sv=(popN (ps.length+1) (-q.x) ps).1→PcNew i new (popN (ps.length+1) (-q.x) ps).2.2→s.heap.objs.size≤i.b →
      OutOk (Vk w c0.out ids (ghO s (P.led w.params t++Z)) r) Q ((o.rest h.eff).rest (i.eff P w.params (t.at q) ix ((o.rest h.eff).ca 0) new))) :
    OutOk (Vk w c0.out ids (ghO s (P.led w.params t++Z)) r) Q o:=by
  have hlen:t.xs.length=ps.length:=by rw [I.xs]; simp [xsOf]
  have np:=I.np
  have j4:=I.j4
  refine ok_cutL F.c1 (AllP.cons (decide_eq_true (by lia)) T.head) fun s1 p1 O1 R1 hle1 hO1 => ?_
  obtain ⟨r0,s1',hE,hK,tt,rfl⟩:=pc_of (a:=P.ap t) (p:=p1) R1 (hO1.outIs F.k1) (pc_turn w (P.ap t) leftFor.t (.ref P.aI) leftFor.b leftFor.o (leftEnv P.aF) o.sp c0.b c0.e c0.p' c0.o _ _ _ _ p1)
  have hb1:s.heap.objs.size≤s1'.heap.objs.size:=Nat.le_trans hle1 hK.le
  refine ⟨⟨.ok (.ret (.int (Int.ofNat t.xs.length) tt)),[],[],s1'.heap.objs.size,s1'.toks,s1'.gens.size⟩,s1',hE,eff_of (ix:=[]) (F:=[]) (news:=[]) hK (fun _ h=>nomatch h) (fun _ h=>nomatch h) (fun _ h=>nomatch h) List.nodup_nil List.nodup_nil rfl, ?_⟩
  generalize hX:(⟨Int.ofNat t.xs.length,tt,s1'.heap.objs.size,s1'.toks,s1'.gens.size⟩:X)=h
  have hv:h.v=Int.ofNat t.xs.length:=by rw [← hX]
  have hhb:s.heap.objs.size≤h.b:=by rw [← hX]; exact hb1
  have heff:(⟨.ok (.ret (.int (Int.ofNat t.xs.length) tt)),[],[],s1'.heap.objs.size,s1'.toks,s1'.gens.size⟩:Eff)=h.eff:=by rw [← hX]; rfl
  rw [heff]
  have H1:=t1_ok t q hk c0 (o.rest h.eff)
  generalize hT1:t.t1 q k c0 (o.rest h.eff)=t1h at H1
  have C2:=F.c2 h
  rw [hT1] at C2
  refine ok_cutP C2 (AllP.cons (by rw [hv]; exact range_small _ (by lia)) .nil) fun s2 p2 O2 base2 off2 tk2 PP2 hb2 hO2 => ?_
  have RZ:=Ready.ofPst PP2 hb2
  obtain ⟨ids2,gb2,_,PP2'⟩:=PP2
  have hn' :=hn h
  generalize haR:(o.rest h.eff).ca 0=aR at RZ hn' ⊢
  have haR' : aR=h.b+1:=by rw [← haR]; exact F.a2 h
  have R2:Ready w s2 (P.inL w.params t1h aR 0 (Int.ofNat (ps.length+1))):=by
    have q:Ready w s2 [(aR,ritO 0 (Builtin.Range.rangeSize 0 (h.v+1) 1)),(P.aF,P.frame w.params t1h),(P.aP,accO P.aD t.xs t.eP),(P.aD,sizeO w.params P.z P.kz P.tz P.eD)]:=RZ.of [0,1,2,3] (by decide) rfl
    rw [hv,range_size,hlen] at q
    unfold LP.inL
    rw [H1.xs,H1.eP]
    exact q
  have ndP:=(List.nodup_append.mp I.nd)
  have parts2:AllAt s2 (partsL ps):=fun x hx=>by
    by_cases hxZ:x∈Z
    · exact RZ.at' x (List.mem_append_right _ hxZ)
    · refine PP2'.keep x.1 x.2 (I.parts x hx) fun hm => ?_
      have hm' : x.1∈Led.as (P.led w.params t++Z):=hm
      obtain ⟨y,hy,e⟩:=List.mem_map.mp hm'
      rcases List.mem_append.mp hy with hy | hy
      · obtain ⟨z,hz,rfl⟩:=partsL_mem hx
        exact ndP.2.2 _ (List.mem_map.mpr ⟨y,hy,e⟩) _ (List.mem_map.mpr ⟨z,hz,rfl⟩) rfl
      · have e1:=I.parts y (hZ y hy)
        have e2:=I.parts x hx
        rw [e] at e1
        rw [e1] at e2
        have:y=x:=by
          obtain ⟨y1,y2⟩:=y
          obtain ⟨x1,x2⟩:=x
          simp only at e
          cases e2
          rw [e]
        exact hxZ (this ▸ hy)
  have nd3:((P.inL w.params t1h aR 0 0).as++ps.map (·.a)).Nodup:=by
    refine List.nodup_append.mpr ⟨R2.nd,ndP.2.1,fun a ha b hb' => ?_⟩
    have hb3:=hb'
    obtain ⟨z,hz,rfl⟩:=List.mem_map.mp hb3
    rcases List.mem_cons.mp ha with ha | ha
    · intro e
      rw [ha] at e
      have:z.a<s.heap.objs.size:=get?_lt (I.parts _ (partsL_of hz))
      rw [← e] at this
      have h2:aR<s.heap.objs.size:=this
      rw [haR'] at h2
      lia
    · refine ndP.2.2 a ?_ _ (List.mem_map.mpr ⟨z,hz,rfl⟩)
      show a∈[P.aI,P.aF,P.aP,P.aD,P.aO,P.aN,P.aT]
      rcases List.mem_cons.mp ha with rfl | hm
      · exact .tail _ (.head _)
      · rcases List.mem_cons.mp hm with rfl | hm
        · exact .tail _ (.tail _ (.head _))
        · rcases List.mem_cons.mp hm with rfl | hm
          · exact .tail _ (.tail _ (.tail _ (.head _)))
          · exact nomatch hm
  obtain ⟨s3,t3,v',hE3,hK3,hA3,hT3,hP3⟩:=inner_ok (c:=⟨leftFor.t, .ref P.aI,leftFor.b,leftFor.o,leftEnv P.aF,(o.rest h.eff).sp,c0.b,c0.e,c0.p',c0.o⟩) (hO2.outIs (F.k2 h)) (ps.length+1) (t:=t1h) (ps:=ps) (p:=p2) R2 parts2 nd3 I.hk (H1.xs.trans I.xs) (by lia) (fun z hz=>Nat.le_trans (I.wl z hz) (by decide))
    (by
      rcases H1.sh with e | e
      · exact .inr ⟨e,by rw [H1.sv]; lia,by lia⟩
      · exact .inl e)
  rw [H1.sv] at hT3 hP3
  have hsz:s.heap.objs.size≤s2.heap.objs.size:=by
    have:=PP2'.le
    rw [← PP2'.size] at this
    exact this
  have hls:=inOf_ls (v:=v') (b:=s3.heap.objs.size) (k:=s3.toks) (g:=s3.gens.size) hT3 H1.j H1.own H1.to H1.pv H1.tp
  have hD:s2.heap.get? P.aD=some (sizeO w.params P.z P.kz P.tz P.eD):=R2.at' (P.aD,_) (.tail _ (.tail _ (.tail _ (.head _))))
  have fin : ∀ new:Led,AllAt s3 new→(∀ x∈new,s2.heap.objs.size≤x.1)→new.as.Nodup→PcNew (inOf t3 v' s3.heap.objs.size s3.toks s3.gens.size) new (popN (ps.length+1) (-q.x) ps).2.2 →
      ∃ e s',EndsAt (Vk w c0.out ids (ghO s (P.led w.params t++Z)) r).M s2 (leftInLoop aR P.aF) p2 O2 s' e.r∧EffOk e s2 s' ∧ OutOk (Vk w c0.out ids (ghO s (P.led w.params t++Z)) r) Q ((o.rest h.eff).rest e):=fun new h1 h2 h3 h4=>by
    refine ⟨(inOf t3 v' s3.heap.objs.size s3.toks s3.gens.size).eff P w.params (t.at q) ix aR new,s3,hE3, ?_,hn' _ new hv hT3.xs hT3.sv h4 (Nat.le_trans hsz hK3.le)⟩
    have z:=eff_inner (ix:=ix) (new:=new) rfl hK3 hD hA3 h1 h2 h3 hix
    unfold IN.eff
    rw [hls]
    exact z
  revert hP3
  cases hpc:(popN (ps.length+1) (-q.x) ps).2.2 with
  | same=>exact fun _=>fin [] (fun _ h=>nomatch h) (fun _ h=>nomatch h) List.nodup_nil (by rw [hpc]; exact rfl)
  | part z=>exact fun hz=>fin [] (fun _ h=>nomatch h) (fun _ h=>nomatch h) List.nodup_nil (by rw [hpc]; exact ⟨hz,rfl⟩)
  | none_ =>
    rintro ⟨z1,z2,h1,h2⟩
    refine fin [(t3.aK,emptyO z1 z2)] (fun x hx => ?_) (fun x hx => ?_) (by simp) (by rw [hpc]; exact ⟨z1,z2,rfl⟩)
    · rcases List.mem_cons.mp hx with rfl | hx
      · exact h1
      · exact nomatch hx
    · rcases List.mem_cons.mp hx with rfl | hx
      · exact h2
      · exact nomatch hx
end Mine
end
section
open PySem PySem.W PySem.W.X PySem.Calls PyProof.Rows PySem.SeqAt
namespace Mine
theorem turn_de {P:LP} {w:World} {c0:CX} {s:Shared} {t:LS} {q:TP} {ps:List PQ} {p:Pos} {O:List Frame} {N k:Nat} {neg:Bool} {nw:IN→Nat→Nat→Led} (F : ∀ (W own:Str) (c:CX),SpecDE P w t q W own c neg nw k N) (hk:k=1∨k=2)
    (I:LInv P w s t ps) (T:TPok P t q) (hO:OutIs O c0.out) (hq:q.x<0) (hneg:decide (Int.ofNat t.own.length+q.x<0)=neg) (hsv : ¬ (popN (ps.length+1) (-q.x) ps).1<0)
    (hnw : ∀ i new,PcNew i new (popN (ps.length+1) (-q.x) ps).2.2 → ∃ z1 z2,new=nw i z1 z2) :
    ∃ s' p' T',Comes (model pw w) s ⟨(model pw w).den (leftLoop P.aI P.aF),leftLoop P.aI P.aF,p,O⟩ s' ⟨(model pw w).den (leftLoop P.aI P.aF),leftLoop P.aI P.aF,p',O⟩∧Kept s s' (P.led w.params t).as ∧
      AllAt s' (P.led w.params T')∧T'.j=t.j+1∧T'.own=newOwn t q∧T'.xs=xsOf (popN (ps.length+1) (-q.x) ps).2.1∧T'.sh=2:=by
  have ho:=I.olen_le
  have hno:=newOwn_le T ho
  have R' : Ready w s (P.led w.params t++[]):=by rw [List.append_nil]; exact I.R
  obtain ⟨s',p',hC,hK,T',hA,h1,h2,h3,h4⟩:=seg_turn (N:=N) (fuel:=700) (p:=p) (ids:=[0,1,2,3,4,5,6]) (r:={exs:=[[],[2,3],[9,1,2,3]],vs:=q.vs,ln:=5,ss:=[S [],newOwn t q]}) (L:=P.led w.params t++[])
    (P:=fun s' => Kept s s' (P.led w.params t++[]:Led).as ∧ ∃ T',AllAt s' (P.led w.params T')∧T'.j=t.j+1∧T'.own=newOwn t q∧T'.xs=xsOf (popN (ps.length+1) (-q.x) ps).2.1∧T'.sh=2)
    (c' :=leftLoop P.aI P.aF) R' hO (by decide) no_alts (by
      have F:=F (S []) (newOwn t q) ⟨c0.b,c0.e,c0.p',c0.o,ghO s (P.led w.params t++[]),s.heap.objs.size,s.toks,s.gens.size,p⟩
      refine ok_pops (c0:=⟨c0.b,c0.e,c0.p',c0.o,ghO s (P.led w.params t++[]),s.heap.objs.size,s.toks,s.gens.size,p⟩) (Z:=[]) (ix:=9) F hk I T hq (fun _ h=>nomatch h) (by decide) fun h i new hv hxs hsv' hnew hb => ?_
      obtain ⟨z1,z2,rfl⟩:=hnw i new hnew
      refine ok_max (F.n h i z1 z2).c ?_ fun m hm => ?_
      · exact AllP.app (T.row ho) (AllP.cons (decide_eq_false (by rw [hsv']; exact hsv)) (AllP.cons hneg (AllP.app T.td (AllP.cons (by lia) .nil))))
      · exact ok_again ((F.n h i z1 z2).n m) (sl_cond t q m hm hno) fun s' _ _ _ gb P' hb=>⟨rfl,kept_of R'.starts P' hb,_,fun x hx=>all_of P' x (List.mem_append_left _ hx),rfl,rfl,hxs,rfl⟩)
  rw [List.append_nil] at hK
  exact ⟨s',p',T',hC,hK,hA,h1,h2,h3,h4⟩
theorem turn_c {P:LP} {w:World} {c0:CX} {s:Shared} {t:LS} {q:TP} {ps ps1:List PQ} {z:PQ} {sv:Int} {p:Pos} {O:List Frame} {N k:Nat} (F : ∀ (W own:Str) (c:CX),SpecC P w t q W own c z k N) (hk:k=1∨k=2)
    (I:LInv P w s t ps) (T:TPok P t q) (hO:OutIs O c0.out) (hq:q.x<0) (hneg : ¬ (Int.ofNat t.own.length+q.x<0)) (hpop:popN (ps.length+1) (-q.x) ps=(sv,ps1, .part z)) (hsv:sv<0) (hlo : -30≤sv) (hz:z∈ps) (hl1:ps1.length≤100) :
    ∃ s' p' T' tw n,Comes (model pw w) s ⟨(model pw w).den (leftLoop P.aI P.aF),leftLoop P.aI P.aF,p,O⟩ s' ⟨(model pw w).den (leftLoop P.aI P.aF),leftLoop P.aI P.aF,p',O⟩∧Kept s s' (P.led w.params t).as ∧
      AllAt s' (P.led w.params T' ++ [(n,tupO [.str (rep sp1 (-sv)) tw, .str z.n z.tn] 0)])∧s.heap.objs.size≤n∧T'.j=t.j+1∧T'.own=newOwn t q∧T'.xs=xsOf ps1++[.ref n]∧T'.sh=2:=by
  have ho:=I.olen_le
  have hno:=newOwn_le T ho
  have zat:AllAt s z.led:=fun x hx=>by
    rcases List.mem_cons.mp hx with rfl | hx
    · exact I.parts _ (partsL_of hz)
    · exact nomatch hx
  have ndz:(Led.as (P.led w.params t++z.led)).Nodup:=by
    have:Led.as (P.led w.params t++z.led)=(P.led w.params t).as++[z.a]:=rfl
    rw [this]
    refine List.nodup_append.mpr ⟨I.R.nd,by simp,fun a ha b hb => ?_⟩
    rcases List.mem_cons.mp hb with rfl | hb
    · exact (List.nodup_append.mp I.nd).2.2 a ha _ (List.mem_map.mpr ⟨z,hz,rfl⟩)
    · exact nomatch hb
  have at2:AllAt s (P.led w.params t++z.led):=fun x hx=>by
    rcases List.mem_append.mp hx with hx | hx
    · exact I.R.at' x hx
    · exact zat x hx
  have ap2:kNone w (P.led w.params t++z.led):=fun x hx=>by
    rcases List.mem_append.mp hx with hx | hx
    · exact I.R.ap x hx
    · rcases List.mem_cons.mp hx with rfl | hx
      · exact I.hk z hz
      · exact nomatch hx
  have R' : Ready w s (P.led w.params t++z.led):=⟨at2,ndz,ap2,I.R.old,I.R.bare⟩
  obtain ⟨s',p',hC,hK,T',tw,n,hA,hn,h1,h2,h3,h4⟩:=seg_turn (N:=N) (fuel:=700) (p:=p) (ids:=[0,1,2,3,4,5,6,7,12]) (r:={exs:=[[],[2,3],[10,1,2,3,7]],vs:=q.vs,ln:=5,ss:=[rep sp1 (-sv),newOwn t q]}) (L:=P.led w.params t++z.led)
    (P:=fun s' => Kept s s' (P.led w.params t++z.led:Led).as ∧ ∃ T' tw n,AllAt s' (P.led w.params T' ++ (z.led++[(n,tupO [.str (rep sp1 (-sv)) tw, .str z.n z.tn] 0)]))∧s.heap.objs.size≤n∧T'.j=t.j+1∧T'.own=newOwn t q∧T'.xs=xsOf ps1++[.ref n]∧T'.sh=2)
    (c' :=leftLoop P.aI P.aF) R' hO (by decide) no_alts (by
      have F:=F (rep sp1 (-sv)) (newOwn t q) ⟨c0.b,c0.e,c0.p',c0.o,ghO s (P.led w.params t++z.led),s.heap.objs.size,s.toks,s.gens.size,p⟩
      refine ok_pops (c0:=⟨c0.b,c0.e,c0.p',c0.o,ghO s (P.led w.params t++z.led),s.heap.objs.size,s.toks,s.gens.size,p⟩) (Z:=z.led) (ix:=10) F hk I T hq (fun x hx=>by
        rcases List.mem_cons.mp hx with rfl | hx
        · exact partsL_of hz
        · exact nomatch hx) (by decide) fun h i new hv hxs hsv' hnew hb => ?_
      rw [hpop] at hxs hsv' hnew
      obtain ⟨hak,rfl⟩:=hnew
      have hxs:i.xs=xsOf ps1:=hxs
      have hsv' : i.sv=sv:=hsv'
      have F3:=F.n h i
      rw [IN.ak_eq hak] at F3
      refine ok_max F3.c ?_ fun m hm => ?_
      · refine AllP.app (T.row ho) (AllP.app (AllP.cons ?_ .nil) (AllP.cons (by rw [hsv']) (AllP.app (AllP.cons (by rw [hsv']; lia) (AllP.cons (by decide) .nil)) (AllP.cons (decide_eq_true (by rw [hsv']; exact hsv)) (AllP.cons (decide_eq_false hneg) (AllP.app T.td (AllP.cons (by lia) .nil)))))))
        rw [hxs]
        simp only [xsOf,List.length_map,List.length_reverse]
        lia
      · exact ok_again (F3.n m) (sl_cond t q m hm hno) fun s' _ _ _ gb P' hb' => ⟨rfl,kept_of R'.starts P' hb',_,_,i.b+1,all_of P',Nat.le_succ_of_le hb,rfl,rfl,by rw [← hxs],rfl⟩)
  refine ⟨s',p',T',tw,n,hC,hK.drop zat (fun x hx=>hA x (List.mem_append_right _ (List.mem_append_left _ hx))),fun x hx => ?_,hn,h1,h2,h3,h4⟩
  rcases List.mem_append.mp hx with hx | hx
  · exact hA x (List.mem_append_left _ hx)
  · exact hA x (List.mem_append_right _ (List.mem_append_right _ hx))
end Mine
end
section
open PySem PySem.W PySem.W.X PySem.Calls PyProof.Rows PySem.SeqAt
namespace Mine
theorem LInv.keep {P:LP} {w:World} {s s' : Shared} {t T' : LS} {ps ps0:List PQ} (I:LInv P w s t ps) (hK:Kept s s' (P.led w.params t).as) (hA:AllAt s' (P.led w.params T')) (hs:List.Sublist ps0 ps) (hx:T'.xs=xsOf ps0) (ho:T'.own.cps.toList=ownL ps0) (hj:T'.j=t.j+1) (h4:t.j<4) (hsh:T'.sh=1∨T'.sh=2):LInv P w s' T' ps0 where
  R:=I.R.next hK hA rfl
  parts:=AllAt.kept (fun x hx=>by
      obtain ⟨z,hz,rfl⟩:=partsL_mem hx
      exact I.parts _ (partsL_of (hs.subset hz))) hK fun x hx hm=>by
    obtain ⟨z,hz,rfl⟩:=partsL_mem hx
    exact (List.nodup_append.mp I.nd).2.2 _ hm _ (List.mem_map.mpr ⟨z,hs.subset hz,rfl⟩) rfl
  nd:=by
    have:(P.led w.params T').as=(P.led w.params t).as:=rfl
    rw [this]
    exact I.nd.sublist (List.Sublist.append_left (hs.map _) _)
  hk z hz:=I.hk z (hs.subset hz)
  xs:=hx
  own:=ho
  nm z hz:=I.nm z (hs.subset hz)
  wl z hz:=I.wl z (hs.subset hz)
  np:=by have:=hs.length_le; have:=I.np; lia
  j4:=by lia
  sh:= .inr hsh
  sh0 _:=hsh
  lo z hz:=I.lo z (hs.subset hz)
  lsz:=Nat.le_trans I.lsz hK.le
theorem LInv.push {P:LP} {w:World} {s s' : Shared} {t T' : LS} {ps ps0:List PQ} {z:PQ} (I:LInv P w s t ps) (hK:Kept s s' (P.led w.params t).as) (hA:AllAt s' (P.led w.params T' ++ z.led)) (hs:List.Sublist ps0 ps) (hx:T'.xs=xsOf (z :: ps0)) (ho:T'.own.cps.toList=ownL (z :: ps0)) (hj:T'.j=t.j+1) (h4:t.j<4) (hsh:T'.sh=1∨T'.sh=2) (hn:s.heap.objs.size≤z.a) (hw:z.w.length≤30) (hc : ∃ c,z.n=⟨#[c]⟩) (hlen:ps0.length≤t.j):LInv P w s' T' (z :: ps0) where
  R:=I.R.next hK (fun x hx=>hA x (List.mem_append_left _ hx)) rfl
  parts x hx:=by
    obtain ⟨y,hy,rfl⟩:=partsL_mem hx
    rcases List.mem_cons.mp hy with rfl | hy
    · exact hA _ (List.mem_append_right _ (.head _))
    · refine hK.keep _ _ (I.parts _ (partsL_of (hs.subset hy))) fun hm => ?_
      exact (List.nodup_append.mp I.nd).2.2 _ hm _ (List.mem_map.mpr ⟨y,hs.subset hy,rfl⟩) rfl
  nd:=by
    have e:(P.led w.params T').as=(P.led w.params t).as:=rfl
    rw [e,List.map_cons]
    have nd0:=I.nd.sublist (List.Sublist.append_left (hs.map (fun y:PQ=>y.a)) (P.led w.params t).as)
    obtain ⟨a1,a2,a3⟩:=List.nodup_append.mp nd0
    refine List.nodup_append.mpr ⟨a1,List.nodup_cons.mpr ⟨fun hm => ?_,a2⟩,fun a ha b hb q => ?_⟩
    · obtain ⟨y,hy,e⟩:=List.mem_map.mp hm
      have:y.a<s.heap.objs.size:=get?_lt (I.parts _ (partsL_of (hs.subset hy)))
      have e' : y.a=z.a:=e
      rw [e'] at this
      exact absurd this (Nat.not_lt.mpr hn)
    · rcases List.mem_cons.mp hb with hb | hb
      · have:=I.R.lt ha
        rw [q,hb] at this
        exact absurd this (Nat.not_lt.mpr hn)
      · exact a3 a ha b hb q
  hk y hy:=by
    rcases List.mem_cons.mp hy with rfl | hy
    · cases hk:(ktP w.params).get y.a with
      | none=>rfl
      | some o=>exact absurd (get?_lt (I.R.old _ _ hk)) (Nat.not_lt.mpr hn)
    · exact I.hk y (hs.subset hy)
  xs:=hx
  own:=ho
  nm y hy:=by
    rcases List.mem_cons.mp hy with rfl | hy
    · exact hc
    · exact I.nm y (hs.subset hy)
  wl y hy:=by
    rcases List.mem_cons.mp hy with rfl | hy
    · exact hw
    · exact I.wl y (hs.subset hy)
  np:=by simp only [List.length_cons]; lia
  j4:=by lia
  sh:= .inr hsh
  sh0 _:=hsh
  lo y hy:=by
    rcases List.mem_cons.mp hy with rfl | hy
    · exact Nat.le_trans I.lsz hn
    · exact I.lo y (hs.subset hy)
  lsz:=Nat.le_trans I.lsz hK.le
theorem getD_one (c:Nat):(⟨#[c]⟩:Str).cps.getD 0 0=c:=rfl
theorem turn_ok {P:LP} {w:World} {c0:CX} {s:Shared} {t:LS} {q:TP} {ps:List PQ} {p:Pos} {O:List Frame} (I:LInv P w s t ps) (T:TPok P t q) (hO:OutIs O c0.out) (h4:t.j<4) :
    ∃ s' p' t' ps',Comes (model pw w) s ⟨(model pw w).den (leftLoop P.aI P.aF),leftLoop P.aI P.aF,p,O⟩ s' ⟨(model pw w).den (leftLoop P.aI P.aF),leftLoop P.aI P.aF,p',O⟩∧Kept s s' (P.led w.params t).as ∧
      LInv P w s' t' ps' ∧ t'.j=t.j+1∧(t'.own.length:Int)=max 0 (t.own.length+q.x):=by
  have ho:=I.olen_le
  have hox:=I.olen
  have hlo:=T.lo
  have hhi:=T.hi
  obtain ⟨c,hc⟩:=T.nm
  have hnl:=newOwn_list T
  rw [I.own] at hnl
  have hlen : ∀ t' : LS,t'.own=newOwn t q→(t'.own.length:Int)=max 0 (t.own.length+q.x):=fun t' e=>by
    have:t'.own.length=t'.own.cps.toList.length:=by simp [Str.length]
    rw [this,e,hnl,List.length_take,List.length_append,List.length_replicate,← hox]
    have:(Int.ofNat t.own.length)=(t.own.length:Int):=rfl
    lia
  have xl:t.xs.length=ps.length:=by rw [I.xs]; simp [xsOf]
  have np:=I.np
  rcases Int.lt_trichotomy q.x 0 with hq | hq | hq
  · have hneg0:0 < -q.x:=by lia
    have hol:(Int.ofNat t.own.length)=(t.own.length:Int):=rfl
    have hx0:q.x.toNat=0:=by lia
    rw [hx0,List.replicate_zero,List.append_nil] at hnl
    have I' :=I
    have pieces:=popN_spec ps (ps.length+1) (-q.x) hneg0 (Nat.le_refl _)
    have DE : ∀ (neg:Bool),decide (Int.ofNat t.own.length+q.x<0)=neg → ¬ (popN (ps.length+1) (-q.x) ps).1<0→((neg=false ∧ ∃ z,(popN (ps.length+1) (-q.x) ps).2.2 = .part z∧t.sh≠0)∨(neg=true∧(popN (ps.length+1) (-q.x) ps).2.2 = .none_)) →
        ∃ s' p' T',Comes (model pw w) s ⟨(model pw w).den (leftLoop P.aI P.aF),leftLoop P.aI P.aF,p,O⟩ s' ⟨(model pw w).den (leftLoop P.aI P.aF),leftLoop P.aI P.aF,p',O⟩∧Kept s s' (P.led w.params t).as ∧
          AllAt s' (P.led w.params T')∧T'.j=t.j+1∧T'.own=newOwn t q∧T'.xs=xsOf (popN (ps.length+1) (-q.x) ps).2.1∧T'.sh=2:=by
      intro neg hng hsv hk
      rcases hk with ⟨rfl,z,hz,hsh0⟩ | ⟨rfl,hz⟩
      · have h0 : ∀ i new,PcNew i new (popN (ps.length+1) (-q.x) ps).2.2 → ∃ z1 z2,new=nwN i z1 z2:=fun i new hn=>by rw [hz] at hn; exact ⟨0,0,hn.2⟩
        rcases I.sh with ⟨e,_⟩ | e | e
        · exact absurd e hsh0
        · exact turn_de (fun W own c=>LS.as_eq e ▸ left_d1 P w t q W own c) (.inl rfl) I T hO hq hng hsv h0
        · exact turn_de (fun W own c=>LS.as_eq e ▸ left_d2 P w t q W own c) (.inr rfl) I T hO hq hng hsv h0
      · have h0 : ∀ i new,PcNew i new (popN (ps.length+1) (-q.x) ps).2.2 → ∃ z1 z2,new=nwE i z1 z2:=fun i new hn=>by rw [hz] at hn; exact hn
        rcases I.sh with ⟨e,_⟩ | e | e
        · exact turn_de (fun W own c=>LS.as_eq e ▸ left_e0 P w t q W own c) (.inl rfl) I T hO hq hng hsv h0
        · exact turn_de (fun W own c=>LS.as_eq e ▸ left_e1 P w t q W own c) (.inl rfl) I T hO hq hng hsv h0
        · exact turn_de (fun W own c=>LS.as_eq e ▸ left_e2 P w t q W own c) (.inr rfl) I T hO hq hng hsv h0
    rcases pieces with ⟨a1,a2⟩ | ⟨a1,sv',ps1,z,a2,a3,a4,⟨qs,a5⟩,a6,a7⟩
    · obtain ⟨s',p',T',h1,h2,h3,hj,h5,h6,h7⟩:=DE true (decide_eq_true (by lia)) (by rw [a2]; show ¬ (-q.x - _<0); lia) (.inr ⟨rfl,by rw [a2]⟩)
      rw [a2] at h6
      refine ⟨s',p',T',[],h1,h2,I.keep h2 h3 (List.nil_sublist _) h6 ?_ hj h4 (.inr h7),hj,hlen T' h5⟩
      rw [h5,hnl,show (max 0 (Int.ofNat t.own.length+q.x)).toNat=0 by lia]
      rfl
    · have hsub:List.Sublist ps1 ps:=by rw [a5]; exact (List.sublist_cons_self _ _).trans (List.sublist_append_right _ _)
      have hsh0:t.sh≠0:=fun e=>by
        rcases I.sh with ⟨_,h⟩ | h | h
        · rw [h] at a4; exact nomatch a4
        · lia
        · lia
      have hidx:(max 0 (Int.ofNat t.own.length+q.x)).toNat=(ownL ps).length - (-q.x).toNat:=by lia
      by_cases hz0:sv' < 0
      · have hl1:ps1.length+1≤ps.length:=by rw [a5,List.length_append,List.length_cons]; lia
        have hwz:=I.wl z a4
        have C : ∃ s' p' T' tw n,Comes (model pw w) s ⟨(model pw w).den (leftLoop P.aI P.aF),leftLoop P.aI P.aF,p,O⟩ s' ⟨(model pw w).den (leftLoop P.aI P.aF),leftLoop P.aI P.aF,p',O⟩∧Kept s s' (P.led w.params t).as ∧
            AllAt s' (P.led w.params T' ++ [(n,tupO [.str (rep sp1 (-sv')) tw, .str z.n z.tn] 0)])∧s.heap.objs.size≤n∧T'.j=t.j+1∧T'.own=newOwn t q∧T'.xs=xsOf ps1++[.ref n]∧T'.sh=2:=by
          have hng : ¬ (Int.ofNat t.own.length+q.x<0):=by lia
          have hsh:=I.sh
          have hlo' : -30≤sv' :=by lia
          have hl1:ps1.length≤100:=by have:=I.np; have:=I.j4; lia
          have hz:=a4
          have hpop:=a2
          have hsv:=hz0
          rcases hsh with ⟨e,_⟩ | e | e
          · exact absurd e hsh0
          · exact turn_c (fun W own c=>LS.as_eq e ▸ left_c1 P w t q W own c z) (.inl rfl) I T hO hq hng hpop hsv hlo' hz hl1
          · exact turn_c (fun W own c=>LS.as_eq e ▸ left_c2 P w t q W own c z) (.inr rfl) I T hO hq hng hpop hsv hlo' hz hl1
        obtain ⟨s',p',T',tw,n,h1,h2,h3,hn,hj,h5,h6,h7⟩:=C
        have hwl:(rep sp1 (-sv')).length=(-sv').toNat:=rep_len 32 (-sv')
        refine ⟨s',p',T',⟨n,rep sp1 (-sv'),tw,z.n,z.tn,0⟩ :: ps1,h1,h2,I.push h2 h3 hsub ?_ ?_ hj h4 (.inr h7) hn (by rw [hwl]; lia) (I.nm z a4) (by lia),hj,hlen T' h5⟩
        · rw [h6,xsOf_cons]
        · rw [h5,hnl,hidx,a7]
          show _=ownL ps1++List.replicate (rep sp1 (-sv')).length z.c
          rw [hwl]
      · have hz1:sv' = 0:=by lia
        obtain ⟨s',p',T',h1,h2,h3,hj,h5,h6,h7⟩:=DE false (decide_eq_false (by lia)) (by rw [a2]; exact hz0) (.inl ⟨rfl,z,by rw [a2],hsh0⟩)
        rw [a2] at h6
        refine ⟨s',p',T',ps1,h1,h2,I.keep h2 h3 hsub h6 ?_ hj h4 (.inr h7),hj,hlen T' h5⟩
        rw [h5,hnl,hidx,a7,hz1]
        show _++List.replicate 0 _=_
        rw [List.replicate_zero,List.append_nil]
  · have B : ∃ s' p' T',Comes (model pw w) s ⟨(model pw w).den (leftLoop P.aI P.aF),leftLoop P.aI P.aF,p,O⟩ s' ⟨(model pw w).den (leftLoop P.aI P.aF),leftLoop P.aI P.aF,p',O⟩∧Kept s s' (P.led w.params t).as ∧
        AllAt s' (P.led w.params T')∧T'.j=t.j+1∧T'.own=newOwn t q∧T'.xs=t.xs∧(T'.sh=1∨T'.sh=2):=by
      rcases I.sh with ⟨e,_⟩ | e | e
      · exact turn_b (fun W own c=>LS.as_eq e ▸ left_b0 P w t q W own c) (.inl rfl) I.R T hO ho hq
      · exact turn_b (fun W own c=>LS.as_eq e ▸ left_b1 P w t q W own c) (.inl rfl) I.R T hO ho hq
      · exact turn_b (fun W own c=>LS.as_eq e ▸ left_b2 P w t q W own c) (.inr rfl) I.R T hO ho hq
    obtain ⟨s',p',T',h1,h2,h3,hj,h5,h6,h7⟩:=B
    refine ⟨s',p',T',ps,h1,h2,I.keep h2 h3 (List.Sublist.refl _) (h6.trans I.xs) ?_ hj h4 h7,hj,hlen T' h5⟩
    rw [h5,hnl,hq]
    have:(Int.ofNat t.own.length)=(t.own.length:Int):=rfl
    rw [show (0:Int).toNat=0 from rfl,List.replicate_zero,List.append_nil,List.take_of_length_le (by rw [← hox]; lia)]
  · have B : ∃ s' p' T' tw,Comes (model pw w) s ⟨(model pw w).den (leftLoop P.aI P.aF),leftLoop P.aI P.aF,p,O⟩ s' ⟨(model pw w).den (leftLoop P.aI P.aF),leftLoop P.aI P.aF,p',O⟩∧Kept s s' (P.led w.params t).as ∧
        AllAt s' (P.led w.params T' ++ [(s.heap.objs.size+6,tupO [.str (rep sp1 q.x) tw, .str q.nm q.tn] 0)])∧T'.j=t.j+1∧T'.own=newOwn t q∧T'.xs=t.xs++[.ref (s.heap.objs.size+6)]∧(T'.sh=1∨T'.sh=2):=by
      rcases I.sh with ⟨e,_⟩ | e | e
      · exact turn_a (fun W own c=>LS.as_eq e ▸ left_a0 P w t q W own c) (.inl rfl) I.R T hO ho (by lia) hq
      · exact turn_a (fun W own c=>LS.as_eq e ▸ left_a1 P w t q W own c) (.inl rfl) I.R T hO ho (by lia) hq
      · exact turn_a (fun W own c=>LS.as_eq e ▸ left_a2 P w t q W own c) (.inr rfl) I.R T hO ho (by lia) hq
    obtain ⟨s',p',T',tw,h1,h2,h3,hj,h5,h6,h7⟩:=B
    have hwl:(rep sp1 q.x).length=q.x.toNat:=rep_len 32 q.x
    refine ⟨s',p',T',⟨s.heap.objs.size+6,rep sp1 q.x,tw,q.nm,q.tn,0⟩ :: ps,h1,h2,I.push h2 h3 (List.Sublist.refl _) ?_ ?_ hj h4 h7 (Nat.le_add_right _ _) (by rw [hwl]; lia) ⟨c,hc⟩ np,hj,hlen T' h5⟩
    · rw [h6,I.xs,xsOf_cons]
    · rw [h5,hnl]
      show _=ownL ps++List.replicate (rep sp1 q.x).length (q.nm.cps.getD 0 0)
      rw [hwl,List.take_of_length_le]
      rw [List.length_append,List.length_replicate,← hox]
      have:(Int.ofNat t.own.length)=(t.own.length:Int):=rfl
      lia
end Mine
end
section
open PySem PySem.W PySem.W.X PySem.Calls PyProof.Rows PySem.SeqAt
namespace Mine
noncomputable def LP.rest (P:LP) (w:Params) (t:LS):Led:=(P.led w t).tail
noncomputable def itEnd:Obj:=⟨.type "list_iterator", none, .fields #[.none, .int 4 0], #[]⟩
noncomputable def N_lend1:Nat:=0x240100405004010000100001
theorem lend_1 (P:LP) (w:World) (t:LS) (c:CX) (i0 i1 i2 i3:Nat) :
    isRet ((sg w c.out [0,1,2,3,4,5,6] {} (LP.led {P with q:=[i0,i1,i2,i3]} w.params {t with sh:=1,j:=4}) c.g c.base c.tk c.gb (leftLoop P.aI P.aF) c.p).run 100 N_lend1) (.ok .next) (((P.aI,itEnd) :: LP.rest {P with q:=[i0,i1,i2,i3]} w.params {t with sh:=1,j:=4}).map some) []:=by
  kernel_rfl
noncomputable def N_lend2:Nat:=0x240100405004010000100001
theorem lend_2 (P:LP) (w:World) (t:LS) (c:CX) (i0 i1 i2 i3:Nat) :
    isRet ((sg w c.out [0,1,2,3,4,5,6] {} (LP.led {P with q:=[i0,i1,i2,i3]} w.params {t with sh:=2,j:=4}) c.g c.base c.tk c.gb (leftLoop P.aI P.aF) c.p).run 100 N_lend2) (.ok .next) (((P.aI,itEnd) :: LP.rest {P with q:=[i0,i1,i2,i3]} w.params {t with sh:=2,j:=4}).map some) []:=by
  kernel_rfl
theorem lend_ok {P:LP} {w:World} {c0:CX} {s:Shared} {t:LS} {p:Pos} {O:List Frame} {i0 i1 i2 i3:Nat} (hP:P.q=[i0,i1,i2,i3]) (hj:t.j=4) (hsh:t.sh=1∨t.sh=2) (R:Ready w s (P.led w.params t)) (hO:OutIs O c0.out) :
    ∃ s',EndsAt (model pw w) s (leftLoop P.aI P.aF) p O s' (.ok .next)∧Kept s s' (P.led w.params t).as∧AllAt s' ((P.aI,itEnd) :: P.rest w.params t):=by
  obtain ⟨aI,aF,nP,aD,aO,aN,aT,q,tq,t0,t1,t2,t3,eN,x,u,eT,z,kz,tz,eD,f,sz,ts,lb⟩:=P
  simp only at hP
  subst hP
  obtain ⟨sh,j,own,to,xs,eP,eF,pv,tp,aK,sv,tsv,tv,ttv,gg⟩:=t
  simp only at hj
  subst hj
  rcases hsh with e | e <;> (simp only at e; subst e)
  · exact seg_ret (ids:=[0,1,2,3,4,5,6]) (r:={}) (N:=N_lend1) (fuel:=100) R hO (by decide) no_alts (lend_1 ⟨aI,aF,nP,aD,aO,aN,aT,[i0,i1,i2,i3],tq,t0,t1,t2,t3,eN,x,u,eT,z,kz,tz,eD,f,sz,ts,lb⟩ w ⟨1,4,own,to,xs,eP,eF,pv,tp,aK,sv,tsv,tv,ttv,gg⟩ ⟨c0.b,c0.e,c0.p',c0.o,_,_,_,_,p⟩ i0 i1 i2 i3) no_cond
  · exact seg_ret (ids:=[0,1,2,3,4,5,6]) (r:={}) (N:=N_lend2) (fuel:=100) R hO (by decide) no_alts (lend_2 ⟨aI,aF,nP,aD,aO,aN,aT,[i0,i1,i2,i3],tq,t0,t1,t2,t3,eN,x,u,eT,z,kz,tz,eD,f,sz,ts,lb⟩ w ⟨2,4,own,to,xs,eP,eF,pv,tp,aK,sv,tsv,tv,ttv,gg⟩ ⟨c0.b,c0.e,c0.p',c0.o,_,_,_,_,p⟩ i0 i1 i2 i3) no_cond
end Mine
end
section
open PySem PySem.W PySem.W.X PySem.Calls PyProof.Rows PySem.SeqAt
namespace Mine
inductive turns_ok_r (P:LP) (w:World) (s:Shared) (t:LS) (qs:Nat→TP) (p:Pos) (O:List Frame):Prop
  | mk : ∀ s' p' t' ps',(Comes (model pw w) s ⟨(model pw w).den (leftLoop P.aI P.aF),leftLoop P.aI P.aF,p,O⟩ s' ⟨(model pw w).den (leftLoop P.aI P.aF),leftLoop P.aI P.aF,p',O⟩)→(Kept s s' (P.led w.params t).as)→(LInv P w s' t' ps')→(t'.j=4)→((t'.own.length:Int)=max 0 (max 0 (max 0 (max 0 (t.own.length+(qs 0).x)+(qs 1).x)+(qs 2).x)+(qs 3).x))→turns_ok_r P w s t qs p O
theorem turns_ok {P:LP} {w:World} {c0:CX} {s:Shared} {t:LS} {qs:Nat→TP} {p:Pos} {O:List Frame} (I:LInv P w s t []) (T : ∀ t' : LS,t'.j<4→TPok P t' (qs t'.j)) (hO:OutIs O c0.out) (h0:t.j=0):turns_ok_r P w s t qs p O:=by
  obtain ⟨s1,p1,t1,ps1,C1,K1,I1,j1,l1⟩:=turn_ok (c0:=c0) (p:=p) I (T t (by lia)) hO (by lia)
  obtain ⟨s2,p2,t2,ps2,C2,K2,I2,j2,l2⟩:=turn_ok (c0:=c0) (p:=p1) I1 (T t1 (by lia)) hO (by lia)
  obtain ⟨s3,p3,t3,ps3,C3,K3,I3,j3,l3⟩:=turn_ok (c0:=c0) (p:=p2) I2 (T t2 (by lia)) hO (by lia)
  obtain ⟨s4,p4,t4,ps4,C4,K4,I4,j4,l4⟩:=turn_ok (c0:=c0) (p:=p3) I3 (T t3 (by lia)) hO (by lia)
  have e1:t1.j=1:=by lia
  have e2:t2.j=2:=by lia
  have e3:t3.j=3:=by lia
  rw [h0] at l1
  rw [e1] at l2
  rw [e2] at l3
  rw [e3] at l4
  refine ⟨s4,p4,t4,ps4,C1.trans (C2.trans (C3.trans C4)), ?_,I4,by lia,by lia⟩
  exact K1.trans (K2.trans (K3.trans K4 fun b hb => .inl hb) fun b hb => .inl hb) fun b hb => .inl hb
structure LRow (P:LP) (w:World) (s:Shared) (t:LS) (ps:List PQ):Prop where
  rest:AllAt s ((P.aI,itEnd) :: P.rest w.params t)
  lo : ∀ z∈ps,P.lb≤z.a
  parts:AllAt s (partsL ps)
  nd:((P.led w.params t).as++ps.map (·.a)).Nodup
  hk : ∀ z∈ps,(ktP w.params).get z.a=none
  xs:t.xs=xsOf ps
  own:t.own.cps.toList=ownL ps
  nm : ∀ z∈ps,∃ c,z.n=⟨#[c]⟩
  wl : ∀ z∈ps,z.w.length≤30
  np:ps.length≤4
  sh:t.sh=1∨t.sh=2
inductive leftLoop_ok_r (P:LP) (w:World) (s:Shared) (t:LS) (qs:Nat→TP) (p:Pos) (O:List Frame):Prop
  | mk : ∀ s' t' ps',(EndsAt (model pw w) s (leftLoop P.aI P.aF) p O s' (.ok .next))→(Kept s s' (P.led w.params t).as)→(LRow P w s' t' ps')→((t'.own.length:Int)=max 0 (max 0 (max 0 (max 0 (t.own.length+(qs 0).x)+(qs 1).x)+(qs 2).x)+(qs 3).x))→leftLoop_ok_r P w s t qs p O
theorem leftLoop_ok {P:LP} {w:World} {c0:CX} {s:Shared} {t:LS} {qs:Nat→TP} {p:Pos} {O:List Frame} {i0 i1 i2 i3:Nat} (hP:P.q=[i0,i1,i2,i3]) (I:LInv P w s t []) (T : ∀ t' : LS,t'.j<4→TPok P t' (qs t'.j)) (hO:OutIs O c0.out) (h0:t.j=0):leftLoop_ok_r P w s t qs p O:=by
  obtain ⟨s1,p1,t1,ps1,C1,K1,I1,j1,l1⟩:=turns_ok (c0:=c0) (p:=p) I T hO h0
  have hsh:t1.sh=1∨t1.sh=2:=I1.sh0 (by lia)
  obtain ⟨s2,E2,K2,A2⟩:=lend_ok (c0:=c0) (p:=p1) hP j1 hsh I1.R hO
  have ea:(P.led w.params t1).as=(P.led w.params t).as:=rfl
  refine ⟨s2,t1,ps1,EndsAt.after C1 E2,K1.trans K2 (fun b hb => .inl (ea ▸ hb)),⟨A2,I1.lo, ?_,I1.nd,I1.hk,I1.xs,I1.own,I1.nm,I1.wl,by have:=I1.np; lia,hsh⟩,l1⟩
  refine AllAt.kept I1.parts K2 fun x hx hm => ?_
  obtain ⟨z,hz,rfl⟩:=partsL_mem hx
  exact (List.nodup_append.mp I1.nd).2.2 _ hm _ (List.mem_map.mpr ⟨z,hz,rfl⟩) rfl
end Mine
end
section
open PySem PySem.W PySem.W.X PySem.Calls PyProof.Rows PySem.SeqAt
namespace Mine
theorem den_builtin {id:String} {args:Args} {b:Builtin} (e:entryFor table id=some b):denF (.builtin id args)=b args:=by
  rw [denF_eq]
  show (match entryFor table id with | some b=>b args | none=>unsupported ((withoutEnding? id "#data").getD id))=_
  rw [e]
noncomputable def lenB (w:Params) (acc:Obj) (x:Int) (q:Nat) (T:Sem Fin):Sem Fin:=adv 40 [.obj acc, .obj (o101 w), .obj (o101 w), .obj (o100 w), .obj (o68 w), .res (.ok (.ret (.int x q)))] T
noncomputable def lenT (den:Code→Sem Fin) (w:Params) (acc:Obj) (aP:Addr) (x:Int) (q:Nat):Sem Fin:=lenB w acc x q (den (.builtin "len" ⟨[.ref aP],[]⟩))
noncomputable def len2 (w:Params) (d aP:Addr) (xs:List Value) (n:Nat) (x:Int) (q:Nat) (h0 : ¬ x<0) (h1 : ¬ x ≥ 2 ^ 63):{T2:Sem Fin // lenB w (accO d xs n) x q (Builtin.«len» ⟨[.ref aP],[]⟩)=T2}:=by
  apply Subtype.mk
  unfold lenB
  conv =>
    lhs
    whnf
    simp only [if_neg h0,if_neg h1]
noncomputable def altLen (w:World) (d aP:Addr) (xs:List Value) (n:Nat) (x:Int) (q:Nat) (h0 : ¬ x<0) (h1 : ¬ x ≥ 2 ^ 63):Sem Fin × Sem Fin:=(lenT denF w.params (accO d xs n) aP x q,(len2 w.params d aP xs n x q h0 h1).val)
theorem altLen_ok (w:World) (d aP:Addr) (xs:List Value) (n:Nat) (x:Int) (q:Nat) (h0 : ¬ x<0) (h1 : ¬ x ≥ 2 ^ 63):(altLen w d aP xs n x q h0 h1).1=(altLen w d aP xs n x q h0 h1).2:=by
  refine Eq.trans ?_ (len2 w.params d aP xs n x q h0 h1).property
  show lenB w.params (accO d xs n) x q (denF (.builtin "len" ⟨[.ref aP],[]⟩))=_
  rw [den_builtin (b:=Builtin.«len») (entryFor_of_tree (by kernel_rfl))]
noncomputable def sumB (st:Obj) (b:Int) (q:Nat) (T:Sem Fin):Sem Fin:=adv 40 [.obj st, .obj ⟨.type "generator", none, .plain, #[]⟩, .res (.ok (.ret (.int b q)))] T
noncomputable def sumO (a:Int) (ta n:Nat):Obj:=⟨.type "list", none, .seq #[.int a ta] n, #[]⟩
noncomputable def sumT (den:Code→Sem Fin) (it sa:Addr) (a b:Int) (ta tb n:Nat):Sem Fin:=sumB (sumO a ta n) b tb (den (.builtin "sum.loop" ⟨[.ref it, .ref sa,rawInt 0,rawInt 0],[]⟩))
noncomputable def sum2 (it sa:Addr) (a b:Int):Sem Fin:=mkInt (a+b) >>= fun v=>updateSeq sa (fun _ => #[v]) >>= fun _=>again (.builtin "sum.loop" ⟨[.ref it, .ref sa,rawInt 0,rawInt 0],[]⟩)
theorem sum2_eq (it sa:Addr) (a b:Int) (ta tb n:Nat) (h1 : -(2^63)≤b) (h2:b<2^63) (h3 : -(2^63)≤a+b) (h4:a+b<2^63):sumB (sumO a ta n) b tb (Builtin.«sum.loop» ⟨[.ref it, .ref sa,rawInt 0,rawInt 0],[]⟩)=sum2 it sa a b:=by
  have e : ∀ (c:Prop) [Decidable c] (A B X:Sem Fin),c→A=X→ite c A B=X:=fun c _ A B X hc hA=>by rw [if_pos hc,hA]
  refine e _ _ _ _ ?_ ?_
  · show ((decide (-(2^63)≤b) && decide (b<2^63)) && (decide (-(2^63)≤a+b) && decide (a+b<2^63)))=true
    simp only [decide_eq_true_eq,Bool.and_eq_true]
    exact ⟨⟨h1,h2⟩,h3,h4⟩
  · rfl
noncomputable def altSum (it sa:Addr) (a b:Int) (ta tb n:Nat):Sem Fin × Sem Fin:=(sumT denF it sa a b ta tb n,sum2 it sa a b)
theorem altSum_ok (it sa:Addr) (a b:Int) (ta tb n:Nat) (h1 : -(2^63)≤b) (h2:b<2^63) (h3 : -(2^63)≤a+b) (h4:a+b<2^63):(altSum it sa a b ta tb n).1=(altSum it sa a b ta tb n).2:=by
  refine Eq.trans ?_ (sum2_eq it sa a b ta tb n h1 h2 h3 h4)
  show sumB (sumO a ta n) b tb (denF (.builtin "sum.loop" ⟨[.ref it, .ref sa,rawInt 0,rawInt 0],[]⟩))=_
  rw [den_builtin (b:=Builtin.«sum.loop») (entryFor_of_tree (by kernel_rfl))]
end Mine
end
section
open PySem PySem.W PySem.W.X PySem.Calls PyProof.Rows PySem.SeqAt
namespace Mine
noncomputable def PQ.sz (z:PQ):Int:=Int.ofNat z.w.length+Int.ofNat z.n.length
noncomputable def refsOf (ps:List PQ):List Value:=ps.map fun z => .ref z.a
noncomputable def sumY (z:Int) (ys:List Int):Int:=ys.foldl (· + ·) z
noncomputable def lenCS:List PQ→List Int→List Prop→List Prop
  | z :: ps,y :: ys,l=>lenCS ps ys ((z.sz=y) :: (z.n.length≤16777216) :: (z.w.length≤16777216) :: l)
  | _,_,l=>l
noncomputable def altsL (g s:Addr):List Int→Int→Nat→List (Sem Fin × Sem Fin)
  | [],_,_=>[]
  | y :: ys,a,t=>altSum g s a y t (t+7) 0 :: altsL g s ys (a+y) (t+8)
noncomputable def tab63 (a:Addr):Addr × Obj:=(63,tabO 26 19 a)
noncomputable def tabE (a:Addr):Addr × Obj:=(a,⟨.none,none, .fields #[], #[]⟩)
noncomputable def AP.lenL (a:AP) (w:Params) (tab:Addr × Obj) (ps:List PQ):Led:=AP.led {a with xs:=refsOf ps} w++tab :: ps.flatMap PQ.led
noncomputable def AP.alts (a:AP) (w:World) (g s:Addr) (t:Nat) (ps:List PQ) (ys:List Int) (h0 : ¬ sumY a.z ys<0) (h1 : ¬ sumY a.z ys ≥ 2 ^ 63):List (Sem Fin × Sem Fin):=
  altsL g s ys a.z t++[altLen w a.aD a.aP (refsOf ps) a.eP (sumY a.z ys) (t+8*ys.length) h0 h1]
noncomputable def AP.lenRun (a:AP) (w:World) (tab:Addr × Obj) (ps:List PQ) (ys:List Int) (ol:Stk) (g:Gh) (base tk gb:Nat) (p:Pos) (G S T:Nat) (h0 : ¬ sumY a.z ys<0) (h1 : ¬ sumY a.z ys ≥ 2 ^ 63) (ids:List Nat) (N:Nat):Out:=
  (sg w ol ids {alts:=a.alts w (base+G) (base+S) (tk+T) ps ys h0 h1,zs:=ys} (a.lenL w.params tab ps) g base tk gb (.call (.builtin "len") ⟨[.ref a.aP],[]⟩) p).run 1200 N
noncomputable def N_len0_0:Nat:=(1<<<10+4100<<<100+4<<<170+zz75<<<180+0x4040180600000000030000000005<<<310+0x20000c0000a0140500405014000140001405000000000001c0001c0001c0800007000070000101c0700000000020000100400000000040000001<<<500)
theorem len_0_0 (w:World) (a:AP) (ac:Addr) (b:List Stmt) (e:PySem.Env) (pf:Pos) (o:OP) (g:Gh) (base tk gb:Nat) (p:Pos) (h0 : ¬ sumY 0 []<0) (h1 : ¬ sumY 0 [] ≥ 2 ^ 63) :
    isRet (AP.lenRun {a with z:=0} w (tab63 ac) [] [] (outFn b e pf o) g base tk gb p 3 4 5 h0 h1 [0,1,2] N_len0_0) (.ok (.ret (.int (sumY 0 []) (tk+6)))) ((AP.lenL {a with z:=0} w.params (tab63 ac) []).map some) (lenCS [] [] []):=by
  kernel_rfl
noncomputable def N_len0_1:Nat:=(1<<<10+5125<<<100+5<<<170+zz75<<<180+0x40501c0700000000030000000006<<<310+0x40601800018000180600000000000200002000020090000800008000010200800000000020000100400000000040000001<<<500+zz1<<<900+zz81<<<930+0xf01c000000701c0001c070000c0280a0100a0280002800028000280a0100a0280002800028000280a0100a02800028000280a<<<1000+0x3c07<<<1460+0x8000080000802400024090240200001<<<1530+0x1000040000380601801018060000600006<<<1710)
theorem len_0_1 (w:World) (a:AP) (z0:PQ) (y0:Int) (ac:Addr) (b:List Stmt) (e:PySem.Env) (pf:Pos) (o:OP) (g:Gh) (base tk gb:Nat) (p:Pos) (h0 : ¬ sumY 0 [y0]<0) (h1 : ¬ sumY 0 [y0] ≥ 2 ^ 63) :
    isRet (AP.lenRun {a with z:=0} w (tab63 ac) [z0] [y0] (outFn b e pf o) g base tk gb p 3 4 5 h0 h1 [0,1,2,3] N_len0_1) (.ok (.ret (.int (sumY 0 [y0]) (tk+14)))) ((AP.lenL {a with z:=0} w.params (tab63 ac) [z0]).map some) (lenCS [z0] [y0] []):=by
  kernel_rfl
noncomputable def N_len0_2:Nat:=(1<<<10+6150<<<100+6<<<170+zz75<<<180+0x4060200800000000030000000007<<<310+0x1c07000000000002400024000240a0000900009000010240900000000020000100400000000040000001<<<500+zz11<<<850+0x1c0701c01<<<890+zz81<<<930+11<<<1000+zz3<<<1010+0xb02c04<<<1070+zz3<<<1110+0xb02c04<<<1170+zz3<<<1210+0x3c08000000200800008020000340b02c04<<<1270+0x3c08<<<1460+0x90000900009028000280a0280200001<<<1530+7<<<1710+zz11<<<1730+0x1c0701c01<<<1770+zz78<<<1810+0x140e03800038000380e<<<1880+zz127<<<1960+5<<<2050+zz127<<<2060+0x3c08000000200800008020000400e03805<<<2150+0x3c08<<<2340+0x90000900009028000280a0280400003<<<2410+7<<<2590+zz11<<<2610+0x1800050000480701c01<<<2650)
theorem len_0_2 (w:World) (a:AP) (z0 z1:PQ) (y0 y1:Int) (ac:Addr) (b:List Stmt) (e:PySem.Env) (pf:Pos) (o:OP) (g:Gh) (base tk gb:Nat) (p:Pos) (h0 : ¬ sumY 0 [y0,y1]<0) (h1 : ¬ sumY 0 [y0,y1] ≥ 2 ^ 63) :
    isRet (AP.lenRun {a with z:=0} w (tab63 ac) [z0,z1] [y0,y1] (outFn b e pf o) g base tk gb p 3 4 5 h0 h1 [0,1,2,3,4] N_len0_2) (.ok (.ret (.int (sumY 0 [y0,y1]) (tk+22)))) ((AP.lenL {a with z:=0} w.params (tab63 ac) [z0,z1]).map some) (lenCS [z0,z1] [y0,y1] []):=by
  kernel_rfl
noncomputable def N_len0_3:Nat:=(1<<<10+7175<<<100+zz80<<<170+0x4070240900000000030000000008<<<310+0x80200800408020000200002008000000000002800028000280b0000a0000a000010280a00000000020000100400000000040000001<<<500+zz81<<<930+0xf024000000902400024090000e0300c0100c0300003000030000300c0100c0300003000030000300c0100c03000030000300c<<<1000+0x3c09<<<1460+0xa0000a0000a02c0002c0b02c0200001<<<1530+0x200802001020080000800008<<<1710+zz78<<<1810+0x140f03c0003c0003c0f<<<1880+zz147<<<1960+5<<<2050+zz147<<<2060+0x3c09000000240900009024000440f03c05<<<2150+0x3c09<<<2340+0xa0000a0000a02c0002c0b02c0400003<<<2410+0x200802001020080000800008<<<2590+zz143<<<2690+18<<<2760+zz22<<<2770+6162<<<2820+zz148<<<2840+6<<<2930+zz148<<<2940+0x3c09000000240900009024000501204806<<<3030+0x3c09<<<3220+0xa0000a0000a02c0002c0b02c0600005<<<3290+0x2000060000580802001020080000800008<<<3470)
theorem len_0_3 (w:World) (a:AP) (z0 z1 z2:PQ) (y0 y1 y2:Int) (ac:Addr) (b:List Stmt) (e:PySem.Env) (pf:Pos) (o:OP) (g:Gh) (base tk gb:Nat) (p:Pos) (h0 : ¬ sumY 0 [y0,y1,y2]<0) (h1 : ¬ sumY 0 [y0,y1,y2] ≥ 2 ^ 63) :
    isRet (AP.lenRun {a with z:=0} w (tab63 ac) [z0,z1,z2] [y0,y1,y2] (outFn b e pf o) g base tk gb p 3 4 5 h0 h1 [0,1,2,3,4,5] N_len0_3) (.ok (.ret (.int (sumY 0 [y0,y1,y2]) (tk+30)))) ((AP.lenL {a with z:=0} w.params (tab63 ac) [z0,z1,z2]).map some) (lenCS [z0,z1,z2] [y0,y1,y2] []):=by
  kernel_rfl
noncomputable def N_len0_4:Nat:=(1<<<10+8200<<<100+8<<<170+zz75<<<180+0x4080280a00000000030000000009<<<310+0x90240900409024000240002409000000000002c0002c0002c0c0000b0000b0000102c0b00000000020000100400000000040000001<<<500+zz81<<<930+0x100d03400034000340d<<<1000+zz150<<<1080+4<<<1170+zz150<<<1180+0x3c0d03404<<<1270+zz151<<<1320+0x200001<<<1530+zz152<<<1560+0x902409<<<1780+zz78<<<1810+0x1410040000400004010<<<1880+zz128<<<1960+5<<<2050+zz128<<<2060+0x481004005<<<2150+zz151<<<2200+0x400003<<<2410+zz152<<<2440+0x902409<<<2660+zz143<<<2690+0x181304c0004c0004c13<<<2760+zz129<<<2840+6<<<2930+zz129<<<2940+0x541304c06<<<3030+zz151<<<3080+0x600005<<<3290+zz152<<<3320+0x5816000070000101c0701c0902409<<<3540+zz14<<<3670+0x160001605807<<<3710+zz14<<<3770+0x160001605807<<<3810+zz14<<<3870+0x601605807<<<3910+zz151<<<3960+0x800007<<<4170+zz152<<<4200+0xa0001c0001a02409<<<4420)
theorem len_0_4 (w:World) (a:AP) (z0 z1 z2 z3:PQ) (y0 y1 y2 y3:Int) (ac:Addr) (b:List Stmt) (e:PySem.Env) (pf:Pos) (o:OP) (g:Gh) (base tk gb:Nat) (p:Pos) (h0 : ¬ sumY 0 [y0,y1,y2,y3]<0) (h1 : ¬ sumY 0 [y0,y1,y2,y3] ≥ 2 ^ 63) :
    isRet (AP.lenRun {a with z:=0} w (tab63 ac) [z0,z1,z2,z3] [y0,y1,y2,y3] (outFn b e pf o) g base tk gb p 3 4 5 h0 h1 [0,1,2,3,4,5,6] N_len0_4) (.ok (.ret (.int (sumY 0 [y0,y1,y2,y3]) (tk+38)))) ((AP.lenL {a with z:=0} w.params (tab63 ac) [z0,z1,z2,z3]).map some) (lenCS [z0,z1,z2,z3] [y0,y1,y2,y3] []):=by
  kernel_rfl
noncomputable def N_len9_0:Nat:=(1<<<10+4100<<<100+4<<<170+zz75<<<180+0x4040180600000000030000000005<<<310+0x20000c0000a0140500405014000140001405000000000001c0001c0001c0800007000070000101c0700000000020000100400000000040000001<<<500)
theorem len_9_0 (w:World) (a:AP) (ac:Addr) (b:List Stmt) (e:PySem.Env) (pf:Pos) (o:OP) (g:Gh) (base tk gb:Nat) (p:Pos) (h0 : ¬ sumY 9 []<0) (h1 : ¬ sumY 9 [] ≥ 2 ^ 63) :
    isRet (AP.lenRun {a with z:=9} w (tab63 ac) [] [] (outFn b e pf o) g base tk gb p 3 4 5 h0 h1 [0,1,2] N_len9_0) (.ok (.ret (.int (sumY 9 []) (tk+6)))) ((AP.lenL {a with z:=9} w.params (tab63 ac) []).map some) (lenCS [] [] []):=by
  kernel_rfl
noncomputable def N_len9_1:Nat:=(1<<<10+5125<<<100+5<<<170+zz75<<<180+0x40501c0700000000030000000006<<<310+0x40601800018000180600000000000200002000020090000800008000010200800000000020000100400000000040000001<<<500+zz1<<<900+zz81<<<930+0xf01c000000701c0001c070000c0280a0100a0280002800028000280a0100a0280002800028000280a0100a02800028000280a<<<1000+0x3c07<<<1460+0x8000080000802400024090240200001<<<1530+0x1000040000380601801018060000600006<<<1710)
theorem len_9_1 (w:World) (a:AP) (z0:PQ) (y0:Int) (ac:Addr) (b:List Stmt) (e:PySem.Env) (pf:Pos) (o:OP) (g:Gh) (base tk gb:Nat) (p:Pos) (h0 : ¬ sumY 9 [y0]<0) (h1 : ¬ sumY 9 [y0] ≥ 2 ^ 63) :
    isRet (AP.lenRun {a with z:=9} w (tab63 ac) [z0] [y0] (outFn b e pf o) g base tk gb p 3 4 5 h0 h1 [0,1,2,3] N_len9_1) (.ok (.ret (.int (sumY 9 [y0]) (tk+14)))) ((AP.lenL {a with z:=9} w.params (tab63 ac) [z0]).map some) (lenCS [z0] [y0] []):=by
  kernel_rfl
noncomputable def N_len9_2:Nat:=(1<<<10+6150<<<100+6<<<170+zz75<<<180+0x4060200800000000030000000007<<<310+0x1c07000000000002400024000240a0000900009000010240900000000020000100400000000040000001<<<500+zz11<<<850+0x1c0701c01<<<890+zz81<<<930+11<<<1000+zz3<<<1010+0xb02c04<<<1070+zz3<<<1110+0xb02c04<<<1170+zz3<<<1210+0x3c08000000200800008020000340b02c04<<<1270+0x3c08<<<1460+0x90000900009028000280a0280200001<<<1530+7<<<1710+zz11<<<1730+0x1c0701c01<<<1770+zz78<<<1810+0x140e03800038000380e<<<1880+zz127<<<1960+5<<<2050+zz127<<<2060+0x3c08000000200800008020000400e03805<<<2150+0x3c08<<<2340+0x90000900009028000280a0280400003<<<2410+7<<<2590+zz11<<<2610+0x1800050000480701c01<<<2650)
theorem len_9_2 (w:World) (a:AP) (z0 z1:PQ) (y0 y1:Int) (ac:Addr) (b:List Stmt) (e:PySem.Env) (pf:Pos) (o:OP) (g:Gh) (base tk gb:Nat) (p:Pos) (h0 : ¬ sumY 9 [y0,y1]<0) (h1 : ¬ sumY 9 [y0,y1] ≥ 2 ^ 63) :
    isRet (AP.lenRun {a with z:=9} w (tab63 ac) [z0,z1] [y0,y1] (outFn b e pf o) g base tk gb p 3 4 5 h0 h1 [0,1,2,3,4] N_len9_2) (.ok (.ret (.int (sumY 9 [y0,y1]) (tk+22)))) ((AP.lenL {a with z:=9} w.params (tab63 ac) [z0,z1]).map some) (lenCS [z0,z1] [y0,y1] []):=by
  kernel_rfl
noncomputable def N_len9_3:Nat:=(1<<<10+7175<<<100+zz80<<<170+0x4070240900000000030000000008<<<310+0x80200800408020000200002008000000000002800028000280b0000a0000a000010280a00000000020000100400000000040000001<<<500+zz81<<<930+0xf024000000902400024090000e0300c0100c0300003000030000300c0100c0300003000030000300c0100c03000030000300c<<<1000+0x3c09<<<1460+0xa0000a0000a02c0002c0b02c0200001<<<1530+0x200802001020080000800008<<<1710+zz78<<<1810+0x140f03c0003c0003c0f<<<1880+zz147<<<1960+5<<<2050+zz147<<<2060+0x3c09000000240900009024000440f03c05<<<2150+0x3c09<<<2340+0xa0000a0000a02c0002c0b02c0400003<<<2410+0x200802001020080000800008<<<2590+zz143<<<2690+18<<<2760+zz22<<<2770+6162<<<2820+zz148<<<2840+6<<<2930+zz148<<<2940+0x3c09000000240900009024000501204806<<<3030+0x3c09<<<3220+0xa0000a0000a02c0002c0b02c0600005<<<3290+0x2000060000580802001020080000800008<<<3470)
theorem len_9_3 (w:World) (a:AP) (z0 z1 z2:PQ) (y0 y1 y2:Int) (ac:Addr) (b:List Stmt) (e:PySem.Env) (pf:Pos) (o:OP) (g:Gh) (base tk gb:Nat) (p:Pos) (h0 : ¬ sumY 9 [y0,y1,y2]<0) (h1 : ¬ sumY 9 [y0,y1,y2] ≥ 2 ^ 63) :
    isRet (AP.lenRun {a with z:=9} w (tab63 ac) [z0,z1,z2] [y0,y1,y2] (outFn b e pf o) g base tk gb p 3 4 5 h0 h1 [0,1,2,3,4,5] N_len9_3) (.ok (.ret (.int (sumY 9 [y0,y1,y2]) (tk+30)))) ((AP.lenL {a with z:=9} w.params (tab63 ac) [z0,z1,z2]).map some) (lenCS [z0,z1,z2] [y0,y1,y2] []):=by
  kernel_rfl
noncomputable def N_len9_4:Nat:=(1<<<10+8200<<<100+8<<<170+zz75<<<180+0x4080280a00000000030000000009<<<310+0x90240900409024000240002409000000000002c0002c0002c0c0000b0000b0000102c0b00000000020000100400000000040000001<<<500+zz81<<<930+0x100d03400034000340d<<<1000+zz150<<<1080+4<<<1170+zz150<<<1180+0x3c0d03404<<<1270+zz151<<<1320+0x200001<<<1530+zz152<<<1560+0x902409<<<1780+zz78<<<1810+0x1410040000400004010<<<1880+zz128<<<1960+5<<<2050+zz128<<<2060+0x481004005<<<2150+zz151<<<2200+0x400003<<<2410+zz152<<<2440+0x902409<<<2660+zz143<<<2690+0x181304c0004c0004c13<<<2760+zz129<<<2840+6<<<2930+zz129<<<2940+0x541304c06<<<3030+zz151<<<3080+0x600005<<<3290+zz152<<<3320+0x5816000070000101c0701c0902409<<<3540+zz14<<<3670+0x160001605807<<<3710+zz14<<<3770+0x160001605807<<<3810+zz14<<<3870+0x601605807<<<3910+zz151<<<3960+0x800007<<<4170+zz152<<<4200+0xa0001c0001a02409<<<4420)
theorem len_9_4 (w:World) (a:AP) (z0 z1 z2 z3:PQ) (y0 y1 y2 y3:Int) (ac:Addr) (b:List Stmt) (e:PySem.Env) (pf:Pos) (o:OP) (g:Gh) (base tk gb:Nat) (p:Pos) (h0 : ¬ sumY 9 [y0,y1,y2,y3]<0) (h1 : ¬ sumY 9 [y0,y1,y2,y3] ≥ 2 ^ 63) :
    isRet (AP.lenRun {a with z:=9} w (tab63 ac) [z0,z1,z2,z3] [y0,y1,y2,y3] (outFn b e pf o) g base tk gb p 3 4 5 h0 h1 [0,1,2,3,4,5,6] N_len9_4) (.ok (.ret (.int (sumY 9 [y0,y1,y2,y3]) (tk+38)))) ((AP.lenL {a with z:=9} w.params (tab63 ac) [z0,z1,z2,z3]).map some) (lenCS [z0,z1,z2,z3] [y0,y1,y2,y3] []):=by
  kernel_rfl
noncomputable def N_len0_8:Nat:=(1<<<10+0x300c<<<100+12<<<170+zz75<<<180+0x103011044000000000c0300c03000000000d<<<310+0x130001200012000010481200000000020000100400000000040000001<<<530+zz22<<<760+0xd0340d0040d03400034000340d<<<850+zz81<<<960+0xf0440000011044000441100016050140101405000050000500005014010140500005000050000501401014050000500005014<<<1030+0x3c11<<<1490+0x200001<<<1560+zz64<<<1590+0x641705c0505c1700017000170001705c0505c1700017000170001705c0505c17000170001705c00014000040501405<<<1840+zz65<<<2220+0x400003<<<2440+zz64<<<2470+zz143<<<2720+0x1c0681a0181a0680006800068000681a0181a0680006800068000681a0181a06800068000681a<<<2790+zz65<<<3100+0x600005<<<3320+zz64<<<3350+0x7c1d074070741d0001d0001d0001d074070741d0001d0001d0001d074070741d0001d0001d0740001c000040701c07<<<3600+zz65<<<3980+0x800007<<<4200+zz64<<<4230+0x808020000200002008000020000040802008<<<4480+zz144<<<4630+8<<<4720+zz144<<<4730+0x882008008<<<4820+zz65<<<4860+0xa00009<<<5080+zz64<<<5110+0x942308c0908c2300023000230002308c0908c2300023000230002308c0908c23000230002308c00024000040902409<<<5360+zz65<<<5740+0xc0000b<<<5960+zz64<<<5990+0xa0260980a098260002600026000260980a098260002600026000260980a09826000260002609800028000040a0280a<<<6240+zz65<<<6620+0xe0000d<<<6840+zz64<<<6870+0xac290a40b0a4290002900029000290a40b0a4290002900029000290a40b0a42900029000290a40002c000040b02c0b<<<7120+zz65<<<7500+0x4c0004c1304c100000f<<<7720+zz22<<<7800+0x48000bc000b40d034010340d0000d0000d<<<7900)
theorem len_0_8 (w:World) (a:AP) (z0 z1 z2 z3 z4 z5 z6 z7:PQ) (y0 y1 y2 y3 y4 y5 y6 y7:Int)  (b:List Stmt) (e:PySem.Env) (pf:Pos) (b2:List Stmt) (e2:PySem.Env) (p2 p3:Pos) (g:Gh) (base tk gb:Nat) (p:Pos) (h0 : ¬ sumY 0 [y0,y1,y2,y3,y4,y5,y6,y7]<0) (h1 : ¬ sumY 0 [y0,y1,y2,y3,y4,y5,y6,y7] ≥ 2 ^ 63) :
    isRet (AP.lenRun {a with z:=0} w (tabE 63) [z0,z1,z2,z3,z4,z5,z6,z7] [y0,y1,y2,y3,y4,y5,y6,y7] ((.func b e,pf) :: outLaw b2 e2 p2 p3) g base tk gb p 6 7 10 h0 h1 [0,1,2,3,4,5,6,7,8,9,10] N_len0_8) (.ok (.ret (.int (sumY 0 [y0,y1,y2,y3,y4,y5,y6,y7]) (tk+75)))) ((AP.lenL {a with z:=0} w.params (tab63 (base+4)) [z0,z1,z2,z3,z4,z5,z6,z7]).map some) (lenCS [z0,z1,z2,z3,z4,z5,z6,z7] [y0,y1,y2,y3,y4,y5,y6,y7] []):=by
  kernel_rfl
end Mine
end
section
open PySem PySem.W PySem.W.X PySem.Calls PyProof.Rows PySem.SeqAt
namespace Mine
noncomputable def LP.call (P:LP) (w:Params) (eP:Nat) (ac:Addr):Led:=
  [(P.aP,accO P.aD [] eP),(P.aD,sizeO w P.z P.kz P.tz P.eD),(P.aO,ordO P.tq P.q),(P.aN,namesO P.t0 P.t1 P.t2 P.t3 P.eN),(P.aT,intsO [(P.x 0,P.u 0),(P.x 1,P.u 1),(P.x 2,P.u 2),(P.x 3,P.u 3)] P.eT),tab63 ac]
noncomputable def LP.in (P:LP) (base tk lb:Nat):LP:={P with lb:=lb,aI:=base+1,aF:=base,f:=fun i=>match i with | 5=>tk+6 | i=>tk+i}
noncomputable def LS.in (t:LS) (tk eP:Nat):LS:={t with sh:=0,j:=0,own:=S [],to:=tk+5,xs:=[],eP:=eP,eF:=6}
noncomputable def LP.apz (P:LP) (eP:Nat):AP:=⟨P.nP,P.aD,[],eP,P.z,P.kz,P.tz,P.eD⟩
noncomputable def Out.rtk (o:Out):Nat:=match o.row.r with | .ok (.ret v)=>Value.tok v | _=>0
structure EI where
  b:Nat
  k:Nat
  g:Nat
noncomputable def loopEff (P:LP) (w:Params) (base:Nat) (t:LS) (ps:List PQ) (i:EI):Eff:=
  ⟨.ok .next,zipU [7,6,0] [(base+1,itEnd),(base,P.frame w t),(P.aP,accO P.aD (refsOf ps) t.eP)],ps.flatMap PQ.led,i.b,i.k,i.g⟩
noncomputable def jn:List Str→Str | [x]=>x | l=>Builtin.Str.glued (S []) l
noncomputable def pcT1 (z:PQ):Str:=rep z.n (Int.ofNat z.w.length)
noncomputable def cPc:List PQ→List Prop→List Prop
  | [],l=>l
  | z :: ps,l=>cPc ps (cMul z.n (Int.ofNat z.w.length)++(cLen z.w++l))
noncomputable def cTail1 (own:Str) (ps:List PQ):List Prop:=(((jn (ps.map pcT1)).cps.toList != own.cps.toList)=false) :: ((jn (ps.map pcT1)).length≤16777216) :: (Builtin.Str.tooLong ((ps.map pcT1).toArray.foldl (· + ·.length+(S []).length) 0)=false) :: cPc ps []
noncomputable def cTail2 (own:Str) (v h sz:Int):List Prop:=cLen own++(((v - h != Int.ofNat own.length+sz)=false) :: cLen own)
noncomputable def selTab:Nat→Nat→Nat
  | 0,9=>(zz80+0x1c0401c00000020000000407000000281302c0b034090240102409000090000902409<<<140+zz124<<<420+zz125<<<550+0x380e0380e0000e000000000e038000380e<<<990+zz126<<<1130+0x3810<<<1240+zz109<<<1260)
  | 0,10=>(zz80+0x1c0401c00000020000000407000000281302c0b034090240102409000090000902409<<<140+zz124<<<420+zz125<<<550+0x380e0380e0000e000000000e038000380e<<<990+zz126<<<1130+0x3810<<<1240+zz109<<<1260)
  | 1,9=>(zz80+0x90340d0000d0000d034000240000409024090280a028010280a0000a0000a0280a<<<140+zz150<<<410+9<<<500+zz150<<<510+0xf030000000c0300c0000c0300003c0d03409<<<600+0x180700000008000000101c000000b04c0c0300c0300c030110280a0040a02800028000280002c0b02c0002c000000000009<<<800+zz57<<<1200+zz125<<<1340+0x4812048120001200000000120480004812<<<1780+zz126<<<1920+0x4814<<<2030+zz109<<<2050)
  | 1,10=>(zz80+0x90340d0000d0000d034000240000409024090280a028010280a0000a0000a0280a<<<140+zz150<<<410+9<<<500+zz150<<<510+0xf030000000c0300c0000c0300003c0d03409<<<600+0x180700000008000000101c000000b04c0c0300c0300c030110280a0040a02800028000280002c0b02c0002c000000000009<<<800+zz57<<<1200+zz125<<<1340+0x4812048120001200000000120480004812<<<1780+zz126<<<1920+0x4814<<<2030+zz109<<<2050)
  | 2,9=>(zz80+0x2c0b<<<140+zz3<<<160+0x90380e0000e0000e0380002400004090240902c0b02c01<<<220+zz127<<<410+9<<<500+zz127<<<510+0xf034000000d0340d0000d034000400e03809<<<600+0x300c03000030000000000009<<<800+zz3<<<910+0xf034000000d0340d0000d0340004c110440a044110001100011000110440a044110001100011000110440a04411000110001104400028000040a0280a02c0b02c01<<<970+0x300c03000030000000000009<<<1550+zz3<<<1660+0x1c0801c0000002000000040700000030130340d0340d0340d0540b02c01<<<1720+zz124<<<1960+0x380000801<<<2090+0x200000004000000001c000000003c07<<<2180+zz57<<<2310+2049<<<2450+0x160580005816<<<2530+zz14<<<2610+0x5816<<<2650+zz126<<<2670+0x5818<<<2780+zz109<<<2800)
  | 2,10=>(zz80+0x2c0b<<<140+zz3<<<160+0x90380e0000e0000e0380002400004090240902c0b02c01<<<220+zz127<<<410+9<<<500+zz127<<<510+0xf034000000d0340d0000d034000400e03809<<<600+0x300c03000030000000000009<<<800+zz3<<<910+0xf034000000d0340d0000d0340004c110440a044110001100011000110440a044110001100011000110440a04411000110001104400028000040a0280a02c0b02c01<<<970+0x300c03000030000000000009<<<1550+zz3<<<1660+0x1c0801c0000002000000040700000030130340d0340d0340d0540b02c01<<<1720+zz124<<<1960+0x380000801<<<2090+0x200000004000000001c000000003c07<<<2180+zz57<<<2310+2049<<<2450+0x160580005816<<<2530+zz14<<<2610+0x5816<<<2650+zz126<<<2670+0x5818<<<2780+zz109<<<2800)
  | 3,9=>(zz80+0x300c<<<140+zz157<<<160+0x240f03c0003c0003c0f0000900001024090240c0300c<<<230+zz147<<<410+9<<<500+zz147<<<510+0xf038000000e0380e0000e038000440f03c09<<<600+0x340d03400034000000000009<<<800+zz157<<<910+0x120000a000010280a0280c0300c<<<980+zz22<<<1090+0x2812<<<1140+zz148<<<1160+10<<<1250+zz148<<<1260+0xf038000000e0380e0000e03800050120480a<<<1350+0x340d03400034000000000009<<<1550+zz157<<<1660+0x3c0e000000380e038000380e000170541502c150540005400054000541502c150540005400054000541502c150540005400054150000b0000102c0b02c0c0300c<<<1730+0x340d03400034000000000009<<<2300+zz157<<<2410+0x280700000008000000101c000000d04c0e0380e0380e038190300c<<<2480+zz57<<<2700+zz125<<<2840+0x1a0700100400004000000000001000010681a0681a0001a000000001a068000681a<<<3280+zz109<<<3550)
  | 3,10=>(zz80+0x300c<<<140+zz157<<<160+0x240f03c0003c0003c0f0000900001024090240c0300c<<<230+zz147<<<410+9<<<500+zz147<<<510+0xf038000000e0380e0000e038000440f03c09<<<600+0x340d03400034000000000009<<<800+zz157<<<910+0x120000a000010280a0280c0300c<<<980+zz22<<<1090+0x2812<<<1140+zz148<<<1160+10<<<1250+zz148<<<1260+0xf038000000e0380e0000e03800050120480a<<<1350+0x340d03400034000000000009<<<1550+zz157<<<1660+0x3c0e000000380e038000380e000170541502c150540005400054000541502c150540005400054000541502c150540005400054150000b0000102c0b02c0c0300c<<<1730+0x340d03400034000000000009<<<2300+zz157<<<2410+0x280700000008000000101c000000d04c0e0380e0380e038190300c<<<2480+zz57<<<2700+zz125<<<2840+0x1a0700100400004000000000001000010681a0681a0001a000000001a068000681a<<<3280+zz109<<<3550)
  | 4,9=>(zz80+0x340d<<<140+zz28<<<160+0x904010000100001004000024000040902409<<<260+zz128<<<410+9<<<500+zz128<<<510+0xf03c000000f03c0f0000f03c000481004009<<<600+0x380e03800038000000000009<<<800+zz28<<<910+0xa04c13000130001304c00028000040a0280a<<<1010+zz129<<<1160+10<<<1250+zz129<<<1260+0xf03c000000f03c0f0000f03c000541304c0a<<<1350+0x380e03800038000000000009<<<1550+zz28<<<1660+0x160580002c000040b02c0b<<<1760+zz14<<<1860+0x16000160580b<<<1900+zz14<<<1960+0x16000160580b<<<2000+zz14<<<2060+0xf03c000000f03c0f0000f03c00060160580b<<<2100+0x380e03800038000000000009<<<2300+zz28<<<2410+0xf03c000000f03c0f0000f03c0006c190640c064190001900019000190640c064190001900019000190640c06419000190001906400030000040c0300c<<<2510+0x300700000008000000101c000000e04c0f03c0f03c0f03c1d0340d0040d0340003400034000380e03800038000000000009<<<3050+zz57<<<3450+zz125<<<3590+0x781e0781e0001e000000001e078000781e<<<4030+zz126<<<4170+0x7820<<<4280+zz109<<<4300)
  | 4,10=>(zz80+0x340d<<<140+zz28<<<160+0x904010000100001004000024000040902409<<<260+zz128<<<410+9<<<500+zz128<<<510+0xf03c000000f03c0f0000f03c000481004009<<<600+0x380e03800038000000000009<<<800+zz28<<<910+0xa04c13000130001304c00028000040a0280a<<<1010+zz129<<<1160+10<<<1250+zz129<<<1260+0xf03c000000f03c0f0000f03c000541304c0a<<<1350+0x380e03800038000000000009<<<1550+zz28<<<1660+0x160580002c000040b02c0b<<<1760+zz14<<<1860+0x16000160580b<<<1900+zz14<<<1960+0x16000160580b<<<2000+zz14<<<2060+0xf03c000000f03c0f0000f03c00060160580b<<<2100+0x380e03800038000000000009<<<2300+zz28<<<2410+0xf03c000000f03c0f0000f03c0006c190640c064190001900019000190640c064190001900019000190640c06419000190001906400030000040c0300c<<<2510+0x300700000008000000101c000000e04c0f03c0f03c0f03c1d0340d0040d0340003400034000380e03800038000000000009<<<3050+zz57<<<3450+zz125<<<3590+0x781e0781e0001e000000001e078000781e<<<4030+zz126<<<4170+0x7820<<<4280+zz109<<<4300)
  | _,_=>0
noncomputable def objLen (o:Obj):Nat:=match o.data with | .dict es _=>es.size | _=>0
noncomputable def selLeft (x:Eff) (N:Nat):Nat:=match x.upd with
  | _ :: (_,_,ob) :: _=>selTab x.new.length (objLen ob)
  | _=>N
noncomputable def N_lw:Nat:=(0x20200000c000040300c0701c07000000000001c070000701c0001c070000701c0001c07<<<30)
noncomputable def LP.runW (P:LP) (w:World) (eP:Nat) (ac:Addr) (o:OP) (c:GX):Out:=
  (sg w o.out [0,1,2,3,4,5] {exs:=[[7,6,0,1,2,3,4],[0,1,5],[0,1,5,8],[0,1,5,8,9],[0,1,5,8,9,10],[0,1,5,8,9,10,11],[0,1]],sel:=selLeft} (P.call w.params eP ac) c.g c.base c.tk c.gb (.call (.ref 225) ⟨[.ref P.aO, .ref P.aN, .ref P.aT, .ref P.aP, .int P.sz P.ts],[]⟩) c.p).run 1000 N_lw
structure LwT (P:LP) (w:World) (ac:Addr) (own:Str) (eP:Nat) (zs:List PQ) (o:OP) (c:GX) (o1:Out):Prop where
  h1:isCut o1 (.call (.builtin "len") ⟨[.ref P.aP],[]⟩) (((P.apz eP).lenL w.params (tab63 ac) zs).map some) (cTail1 own zs)
  k1:o1.row.stk=outFn leftD.b (leftEnv c.base) o1.sp2 o
  h2 : ∀ m:X,isCut (o1.rest m.eff) (.call (.ref 98) ⟨[.ref P.aP],[]⟩) (([(P.aP,accO P.aD (refsOf zs) eP),(P.aD,sizeO w.params P.z P.kz P.tz P.eD)]:Led).map some) []
  k2 : ∀ m:X,(o1.rest m.eff).row.stk=outFn leftD.b (leftEnv c.base) (o1.rest m.eff).sp2 o
  h3 : ∀ m h:X,isRet ((o1.rest m.eff).rest h.eff) (.ok (.ret (.int (Int.ofNat own.length) ((o1.rest m.eff).rest h.eff).rtk))) ((LP.call {P with z:=0,tz:=((o1.rest m.eff).rest h.eff).dt 1 0} w.params (((o1.rest m.eff).rest h.eff).ep 0) ac).map some) (cTail2 own m.v h.v P.sz)
noncomputable def LP.wOut (P:LP) (w:World) (eP:Nat) (ac:Addr) (t:LS) (zs:List PQ) (o:OP) (c:GX) (i:EI) (lb:Nat):Out:=(P.runW w eP ac o c).rest (loopEff (P.in c.base c.tk lb) w.params c.base t zs i)
theorem lw_0 (P:LP) (w:World) (eP:Nat) (ac:Addr) (t:LS) (o:OP) (c:GX) (lb:Nat) :
    isCut (P.runW w eP ac o c) (leftLoop (c.base+1) c.base) (((P.in c.base c.tk lb).led w.params (t.in c.tk eP)).map some) []∧(P.runW w eP ac o c).row.stk=outFn leftD.b (leftEnv c.base) (P.runW w eP ac o c).sp2 o:=
  ⟨by kernel_rfl,by kernel_rfl⟩
theorem lw_01 (P:LP) (w:World) (eP:Nat) (ac:Addr) (t:LS) (o:OP) (c:GX) (i:EI) (lb:Nat):LwT P w ac t.own t.eP [] o c (P.wOut w eP ac {t with sh:=1} [] o c i lb):=
  ⟨by kernel_rfl,by kernel_rfl,fun m=>by kernel_rfl,fun m=>by kernel_rfl,fun m h=>by kernel_rfl⟩
theorem lw_02 (P:LP) (w:World) (eP:Nat) (ac:Addr) (t:LS) (o:OP) (c:GX) (i:EI) (lb:Nat):LwT P w ac t.own t.eP [] o c (P.wOut w eP ac {t with sh:=2} [] o c i lb):=
  ⟨by kernel_rfl,by kernel_rfl,fun m=>by kernel_rfl,fun m=>by kernel_rfl,fun m h=>by kernel_rfl⟩
theorem lw_11 (P:LP) (w:World) (eP:Nat) (ac:Addr) (t:LS) (z0:PQ) (o:OP) (c:GX) (i:EI) (lb:Nat):LwT P w ac t.own t.eP [z0] o c (P.wOut w eP ac {t with sh:=1} [z0] o c i lb):=
  ⟨by kernel_rfl,by kernel_rfl,fun m=>by kernel_rfl,fun m=>by kernel_rfl,fun m h=>by kernel_rfl⟩
theorem lw_12 (P:LP) (w:World) (eP:Nat) (ac:Addr) (t:LS) (z0:PQ) (o:OP) (c:GX) (i:EI) (lb:Nat):LwT P w ac t.own t.eP [z0] o c (P.wOut w eP ac {t with sh:=2} [z0] o c i lb):=
  ⟨by kernel_rfl,by kernel_rfl,fun m=>by kernel_rfl,fun m=>by kernel_rfl,fun m h=>by kernel_rfl⟩
theorem lw_21 (P:LP) (w:World) (eP:Nat) (ac:Addr) (t:LS) (z0 z1:PQ) (o:OP) (c:GX) (i:EI) (lb:Nat):LwT P w ac t.own t.eP [z0,z1] o c (P.wOut w eP ac {t with sh:=1} [z0,z1] o c i lb):=
  ⟨by kernel_rfl,by kernel_rfl,fun m=>by kernel_rfl,fun m=>by kernel_rfl,fun m h=>by kernel_rfl⟩
theorem lw_22 (P:LP) (w:World) (eP:Nat) (ac:Addr) (t:LS) (z0 z1:PQ) (o:OP) (c:GX) (i:EI) (lb:Nat):LwT P w ac t.own t.eP [z0,z1] o c (P.wOut w eP ac {t with sh:=2} [z0,z1] o c i lb):=
  ⟨by kernel_rfl,by kernel_rfl,fun m=>by kernel_rfl,fun m=>by kernel_rfl,fun m h=>by kernel_rfl⟩
theorem lw_31 (P:LP) (w:World) (eP:Nat) (ac:Addr) (t:LS) (z0 z1 z2:PQ) (o:OP) (c:GX) (i:EI) (lb:Nat):LwT P w ac t.own t.eP [z0,z1,z2] o c (P.wOut w eP ac {t with sh:=1} [z0,z1,z2] o c i lb):=
  ⟨by kernel_rfl,by kernel_rfl,fun m=>by kernel_rfl,fun m=>by kernel_rfl,fun m h=>by kernel_rfl⟩
theorem lw_32 (P:LP) (w:World) (eP:Nat) (ac:Addr) (t:LS) (z0 z1 z2:PQ) (o:OP) (c:GX) (i:EI) (lb:Nat):LwT P w ac t.own t.eP [z0,z1,z2] o c (P.wOut w eP ac {t with sh:=2} [z0,z1,z2] o c i lb):=
  ⟨by kernel_rfl,by kernel_rfl,fun m=>by kernel_rfl,fun m=>by kernel_rfl,fun m h=>by kernel_rfl⟩
theorem lw_41 (P:LP) (w:World) (eP:Nat) (ac:Addr) (t:LS) (z0 z1 z2 z3:PQ) (o:OP) (c:GX) (i:EI) (lb:Nat):LwT P w ac t.own t.eP [z0,z1,z2,z3] o c (P.wOut w eP ac {t with sh:=1} [z0,z1,z2,z3] o c i lb):=
  ⟨by kernel_rfl,by kernel_rfl,fun m=>by kernel_rfl,fun m=>by kernel_rfl,fun m h=>by kernel_rfl⟩
theorem lw_42 (P:LP) (w:World) (eP:Nat) (ac:Addr) (t:LS) (z0 z1 z2 z3:PQ) (o:OP) (c:GX) (i:EI) (lb:Nat):LwT P w ac t.own t.eP [z0,z1,z2,z3] o c (P.wOut w eP ac {t with sh:=2} [z0,z1,z2,z3] o c i lb):=
  ⟨by kernel_rfl,by kernel_rfl,fun m=>by kernel_rfl,fun m=>by kernel_rfl,fun m h=>by kernel_rfl⟩
theorem lw_any {P:LP} {w:World} {eP:Nat} {ac:Addr} {t:LS} {o:OP} {c:GX} {i:EI} {lb:Nat} (hsh:t.sh=1∨t.sh=2) (zs:List PQ) (hl:zs.length≤4):LwT P w ac t.own t.eP zs o c (P.wOut w eP ac t zs o c i lb):=by
  have e : ∀ n,t.sh=n→t={t with sh:=n}:=fun n h=>by rw [← h]
  rcases hsh with h | h
  · rw [e 1 h]
    match zs,hl with
    | [],_=>exact lw_01 P w eP ac t  o c i lb
    | [z0],_=>exact lw_11 P w eP ac t z0 o c i lb
    | [z0,z1],_=>exact lw_21 P w eP ac t z0 z1 o c i lb
    | [z0,z1,z2],_=>exact lw_31 P w eP ac t z0 z1 z2 o c i lb
    | [z0,z1,z2,z3],_=>exact lw_41 P w eP ac t z0 z1 z2 z3 o c i lb
    | _ :: _ :: _ :: _ :: _ :: l,hl=>exact absurd hl (by simp)
  · rw [e 2 h]
    match zs,hl with
    | [],_=>exact lw_02 P w eP ac t  o c i lb
    | [z0],_=>exact lw_12 P w eP ac t z0 o c i lb
    | [z0,z1],_=>exact lw_22 P w eP ac t z0 z1 o c i lb
    | [z0,z1,z2],_=>exact lw_32 P w eP ac t z0 z1 z2 o c i lb
    | [z0,z1,z2,z3],_=>exact lw_42 P w eP ac t z0 z1 z2 z3 o c i lb
    | _ :: _ :: _ :: _ :: _ :: l,hl=>exact absurd hl (by simp)
end Mine
end
section
open PySem PySem.W PySem.W.X PySem.Calls PyProof.Rows PySem.SeqAt
namespace Mine
structure CC where
  it:Addr
  acc:Addr
  Z:Addr
  F:Addr
structure CT where
  xs:List Value
  n:Nat
  za:Nat
  zv:Value
  zn:Nat
noncomputable def LX.op (x:LX) (c:CP) (C:CC) (cells:List (Str × Addr)) (p:Pos):OP:=⟨c.e,c.gs,c.sc,c.ps, .ref C.it, .ref C.acc,compEnv c C.Z C.F cells,x.e,x.b,p,x.p3,x.p4⟩
structure CE where
  yi:Int
  ys:Str
  ty:Nat
  b:Nat
  k:Nat
  g:Nat
noncomputable def CC.ledL (C:CC) (P:LP) (w:Params) (sh:Nat) (t:CT) (aOs:Addr) (os:List Value) (eO:Nat) (eP:Nat) (ac:Addr) (v left:Int):Led:=
  [(C.it,ritO v left),(C.acc,listO t.xs t.n),(C.Z,zO w k_turn sh t.za t.zv t.zn),(C.F+6,cellO (.ref aOs)),(C.F+1,cellO (.ref P.aN)),(C.F+5,cellO (.ref P.aT)),(C.F+7,cellO (.ref P.aP)),(aOs,listO os eO)]++P.call w eP ac
noncomputable def idsL:List Nat:=[0,1,2,3,4,5,6,7,8,9,10,11,12,13]
noncomputable def CC.runL (C:CC) (P:LP) (w:World) (sh:Nat) (t:CT) (aOs:Addr) (os:List Value) (eO eP:Nat) (ac:Addr) (v left:Int) (x:LX) (c:GX) (N:Nat):Out:=
  (sg w x.out idsL {exs:=[[8,9,10,11,12,13]],vs:=[.ref P.aO]} (C.ledL P w.params sh t aOs os eO eP ac v left) c.g c.base c.tk c.gb (cLoop leftC C.it C.acc C.Z C.F (leftCells C.F)) c.p).run 200 N
noncomputable def lEff (e:CE) (P:LP) (w:Params) (eP' tz' : Nat):Eff:=⟨.ok (.ret (.int e.yi e.ty)),zipU [8,9] [(P.aP,accO P.aD [] eP'),(P.aD,sizeO w 0 P.kz tz' P.eD)],[],e.b,e.k,e.g⟩
noncomputable def CC.ledR (C:CC) (P:RP) (w:Params) (sh:Nat) (t:CT) (q:List Nat) (aOs:Addr) (os:List Value) (eO eW:Nat) (j:Int):Led:=
  [(C.it,litO aOs j),(C.acc,listO t.xs t.n),(C.Z,zO w k_order sh t.za t.zv t.zn),(C.F+8,cellO (.ref P.aW)),(C.F+1,cellO (.ref P.aN)),(C.F+5,cellO (.ref P.aT)),(aOs,listO os eO)]++P.led w q eW
noncomputable def idsR:List Nat:=[0,1,2,3,4,5,6,7,8,9,10,11]
noncomputable def CC.runR (C:CC) (P:RP) (w:World) (sh:Nat) (t:CT) (q:List Nat) (aOs:Addr) (os:List Value) (eO eW:Nat) (j:Int) (x:LX) (c:GX) (N:Nat):Out:=
  (sg w x.out idsR {exs:=[[7,8,9,10,11]],vs:=[.ref P.aO],ln:=7} (C.ledR P w.params sh t q aOs os eO eW j) c.g c.base c.tk c.gb (cLoop ringC C.it C.acc C.Z C.F (ringCells C.F)) c.p).run 200 N
noncomputable def rEff (e:CE) (P:RP) (eW:Nat):Eff:=⟨.ok (.ret (.int e.yi e.ty)),zipU [10] [(P.aW,accO P.aD [] eW)],[],e.b,e.k,e.g⟩
noncomputable def CC.ledT (C:CC) (P:RD) (w:Params) (sh:Nat) (t:CT) (u:RS) (v left:Int):Led:=
  [(C.it,ritO v left),(C.acc,listO t.xs t.n),(C.Z,zO w k_turn sh t.za t.zv t.zn),(C.F+4,cellO (.ref P.aR))]++P.obj w u
noncomputable def CC.runT (C:CC) (P:RD) (w:World) (sh:Nat) (t:CT) (u:RS) (v left:Int) (x:LX) (c:GX) (N:Nat):Out:=
  (sg w x.out idsL {exs:=[[4,5,6,7,8,9,10,11,12,13]]} (C.ledT P w.params sh t u v left) c.g c.base c.tk c.gb (cLoop tokC C.it C.acc C.Z C.F (tokCells C.F)) c.p).run 200 N
noncomputable def tEff (e:CE) (P:RD) (w:Params) (u:RS):Eff:=⟨.ok (.ret (.str e.ys e.ty)),zipU [4,5,6,7,8,9,10,11,12,13] (P.obj w u),[],e.b,e.k,e.g⟩
noncomputable def CC.ledP (C:CC) (w:Params) (sh:Nat) (t:CT) (aW:Addr) (ws:List Value) (eW:Nat) (v left:Int):Led:=
  [(C.it,ritO v left),(C.acc,listO t.xs t.n),(C.Z,zO w k_place sh t.za t.zv t.zn),(C.F+3,cellO (.ref aW)),(aW,listO ws eW)]
noncomputable def CC.runP (C:CC) (w:World) (sh:Nat) (t:CT) (aW:Addr) (ws:List Value) (eW:Nat) (v left:Int) (R:Str) (tR:Nat) (nm:Str) (tn:Nat) (x:LX) (c:GX) (N:Nat):Out:=
  (sg w x.out [0,1,2,3,4,6] {exs:=[[5]],vs:=[.str R tR, .str nm tn]} (C.ledP w.params sh t aW ws eW v left) c.g c.base c.tk c.gb (cLoop pairC C.it C.acc C.Z C.F (pairCells C.F)) c.p).run 200 N
noncomputable def pEff (e:CE) (a:Addr) (ob:Obj):Eff:=⟨.ok (.ret (.ref a)),[],[(a,ob)],e.b,e.k,e.g⟩
noncomputable def CT.nx (t:CT) (y zv:Value) (o:Out):CT:={xs:=t.xs++[y],n:=o.ep 1,za:=o.kt 2 0,zv:=zv,zn:=o.ep 2}
structure ClS (C:CC) (P:LP) (w:World) (t:CT) (aOs:Addr) (os:List Value) (eO eP:Nat) (ac:Addr) (v:Int) (r:Nat) (zz:Int) (b:Bool) (x:LX) (o:Out):Prop where
  a:isCut o (.call (.ref 225) ⟨[.ref P.aO, .ref P.aN, .ref P.aT, .ref P.aP, .int zz (Value.tok (Code.argV o.row.c 4))],[]⟩) ((P.call w.params eP ac).map some) (((v == 0)=b) :: cItem os v (.ref P.aO))
  k:o.row.stk=(x.op leftC C (leftCells C.F) o.sp2).out
  z : ∀ (e:CE) (eP' tz' : Nat),isAgain (o.rest (lEff e P w.params eP' tz')) (cLoop leftC C.it C.acc C.Z C.F (leftCells C.F)) ((C.ledL {P with z:=0,tz:=tz' } w.params 1 (t.nx (.int e.yi e.ty) (.int v ((o.rest (lEff e P w.params eP' tz')).dt 2 0)) (o.rest (lEff e P w.params eP' tz'))) aOs os eO eP' ac (v+1) (Int.ofNat (r+1) - 1)).map some) [t.xs.length≤1000]
structure CrS (C:CC) (P:RP) (w:World) (t:CT) (q:List Nat) (aOs:Addr) (os:List Value) (eO eW:Nat) (j:Int) (x:LX) (o:Out):Prop where
  a:isCut o P.code ((P.led w.params q eW).map some) (cNext os j (.ref P.aO))
  k:o.row.stk=(x.op ringC C (ringCells C.F) o.sp2).out
  z : ∀ (e:CE) (eW' : Nat),isAgain (o.rest (rEff e P eW')) (cLoop ringC C.it C.acc C.Z C.F (ringCells C.F)) ((C.ledR P w.params 1 (t.nx (.int e.yi e.ty) (.ref P.aO) (o.rest (rEff e P eW'))) q aOs os eO eW' (j+1)).map some) [t.xs.length≤1000]
structure CtS (C:CC) (P:RD) (w:World) (t:CT) (u:RS) (v:Int) (r:Nat) (x:LX) (o:Out):Prop where
  a:isCut o (.call (.ref 177) ⟨[.ref P.aR],[]⟩) ((P.obj w.params u).map some) []
  k:o.row.stk=(x.op tokC C (tokCells C.F) o.sp2).out
  z : ∀ (e:CE) (u' : RS),isAgain (o.rest (tEff e P w.params u')) (cLoop tokC C.it C.acc C.Z C.F (tokCells C.F)) ((C.ledT P w.params 1 (t.nx (.str e.ys e.ty) (.int v ((o.rest (tEff e P w.params u')).dt 2 0)) (o.rest (tEff e P w.params u'))) u' (v+1) (Int.ofNat (r+1) - 1)).map some) [t.xs.length≤1000]
structure CpS (C:CC) (w:World) (t:CT) (aW:Addr) (ws:List Value) (eW:Nat) (v:Int) (r:Nat) (R:Str) (tR:Nat) (nm:Str) (tn:Nat) (x:LX) (c:GX) (o:Out):Prop where
  a:isCut o (.call (.ref 149) ⟨[.str R tR, .ref c.base],[]⟩) (([(c.base,listO [.str nm tn, .str (S [120]) (o.dt 0 1)] 0)]:Led).map some) (cItem ws (2*v) (.str nm tn)++cItem ws (2*v+1) (.str R tR))
  k:o.row.stk=(x.op pairC C (pairCells C.F) o.sp2).out
  z : ∀ (e:CE) (a:Addr) (ob:Obj),isAgain (o.rest (pEff e a ob)) (cLoop pairC C.it C.acc C.Z C.F (pairCells C.F)) ((C.ledP w.params 1 (t.nx (.ref a) (.int v ((o.rest (pEff e a ob)).dt 2 0)) (o.rest (pEff e a ob))) aW ws eW (v+1) (Int.ofNat (r+1) - 1)++[(a,ob)]).map some) [t.xs.length≤1000]
noncomputable def N_cl0:Nat:=(zz38+0x1000000040301c0601400020040200002008020030100000c03<<<130+zz112<<<350)
theorem cl0 (C:CC) (P:LP) (w:World) (t:CT) (aOs:Addr) (os:List Value) (eO eP:Nat) (ac:Addr) (v:Int) (r:Nat) (x:LX) (c:GX):ClS C P w t aOs os eO eP ac v r 9 true x (C.runL P w 0 t aOs os eO eP ac v (Int.ofNat (r+1)) x c N_cl0):=
  ⟨by kernel_rfl,by kernel_rfl,fun e eP' tz' => by kernel_rfl⟩
noncomputable def N_cr0:Nat:=(0x1006014030000300c00000010140100001+zz112<<<150)
theorem cr0 (C:CC) (P:RP) (w:World) (t:CT) (q:List Nat) (aOs:Addr) (os:List Value) (eO eW:Nat) (j:Int) (x:LX) (c:GX):CrS C P w t q aOs os eO eW j x (C.runR P w 0 t q aOs os eO eW j x c N_cr0):=
  ⟨by kernel_rfl,by kernel_rfl,fun e eW' => by kernel_rfl⟩
noncomputable def N_ct0:Nat:=(zz38+0x18050000000000014000000001400000000140400c03<<<130+zz112<<<320)
theorem ct0 (C:CC) (P:RD) (w:World) (t:CT) (u:RS) (v:Int) (r:Nat) (x:LX) (c:GX):CtS C P w t u v r x (C.runT P w 0 t u v (Int.ofNat (r+1)) x c N_ct0):=
  ⟨by kernel_rfl,by kernel_rfl,fun e u' => by kernel_rfl⟩
noncomputable def N_cp0:Nat:=(zz38+0x30100000c03<<<130+0x2000000040501005000050140500000000030100000005010050000501405<<<240+zz9<<<500+1031<<<530)
theorem cp0 (C:CC) (w:World) (t:CT) (aW:Addr) (ws:List Value) (eW:Nat) (v:Int) (r:Nat) (R:Str) (tR:Nat) (nm:Str) (tn:Nat) (x:LX) (c:GX):CpS C w t aW ws eW v r R tR nm tn x c (C.runP w 0 t aW ws eW v (Int.ofNat (r+1)) R tR nm tn x c N_cp0):=
  ⟨by kernel_rfl,by kernel_rfl,fun e a ob=>by kernel_rfl⟩
noncomputable def N_cl1:Nat:=(zz38+0x2000000040301c0601400020040200002008020030100000c03<<<130+zz112<<<350)
theorem cl1 (C:CC) (P:LP) (w:World) (t:CT) (aOs:Addr) (os:List Value) (eO eP:Nat) (ac:Addr) (v:Int) (r:Nat) (x:LX) (c:GX):ClS C P w t aOs os eO eP ac v r 0 false x (C.runL P w 1 t aOs os eO eP ac v (Int.ofNat (r+1)) x c N_cl1):=
  ⟨by kernel_rfl,by kernel_rfl,fun e eP' tz' => by kernel_rfl⟩
noncomputable def N_cr1:Nat:=(0x1006014030000300c00000010140100001+zz112<<<150)
theorem cr1 (C:CC) (P:RP) (w:World) (t:CT) (q:List Nat) (aOs:Addr) (os:List Value) (eO eW:Nat) (j:Int) (x:LX) (c:GX):CrS C P w t q aOs os eO eW j x (C.runR P w 1 t q aOs os eO eW j x c N_cr1):=
  ⟨by kernel_rfl,by kernel_rfl,fun e eW' => by kernel_rfl⟩
noncomputable def N_ct1:Nat:=(zz38+0x18050000000000014000000001400000000140400c03<<<130+zz112<<<320)
theorem ct1 (C:CC) (P:RD) (w:World) (t:CT) (u:RS) (v:Int) (r:Nat) (x:LX) (c:GX):CtS C P w t u v r x (C.runT P w 1 t u v (Int.ofNat (r+1)) x c N_ct1):=
  ⟨by kernel_rfl,by kernel_rfl,fun e u' => by kernel_rfl⟩
noncomputable def N_cp1:Nat:=(zz38+0x30100000c03<<<130+0x2000000040501005000050140500000000030100000005010050000501405<<<240+zz9<<<500+1031<<<530)
theorem cp1 (C:CC) (w:World) (t:CT) (aW:Addr) (ws:List Value) (eW:Nat) (v:Int) (r:Nat) (R:Str) (tR:Nat) (nm:Str) (tn:Nat) (x:LX) (c:GX):CpS C w t aW ws eW v r R tR nm tn x c (C.runP w 1 t aW ws eW v (Int.ofNat (r+1)) R tR nm tn x c N_cp1):=
  ⟨by kernel_rfl,by kernel_rfl,fun e a ob=>by kernel_rfl⟩
noncomputable def N_clE:Nat:=0x4001004010000100001
noncomputable def N_cpE:Nat:=0x1c01004010000100001
noncomputable def N_crE:Nat:=0x380100407004010000100001
noncomputable def N_ctE:Nat:=0x4001004010000100001
theorem clE (C:CC) (P:LP) (w:World) (t:CT) (aOs:Addr) (os:List Value) (eO eP:Nat) (ac:Addr) (v:Int) (x:LX) (c:GX) :
    isRet (C.runL P w 1 t aOs os eO eP ac v 0 x c N_clE) (.ok .next) ((C.ledL P w.params 1 t aOs os eO eP ac v 0).map some) []:=by
  kernel_rfl
theorem ctE (C:CC) (P:RD) (w:World) (t:CT) (u:RS) (v:Int) (x:LX) (c:GX) :
    isRet (C.runT P w 1 t u v 0 x c N_ctE) (.ok .next) ((C.ledT P w.params 1 t u v 0).map some) []:=by
  kernel_rfl
theorem cpE (C:CC) (w:World) (t:CT) (aW:Addr) (ws:List Value) (eW:Nat) (v:Int) (x:LX) (c:GX) :
    isRet ((sg w x.out [0,1,2,3,4] {} (C.ledP w.params 1 t aW ws eW v 0) c.g c.base c.tk c.gb (cLoop pairC C.it C.acc C.Z C.F (pairCells C.F)) c.p).run 200 N_cpE) (.ok .next) ((C.ledP w.params 1 t aW ws eW v 0).map some) []:=by
  kernel_rfl
noncomputable def orefs (a:Nat→Addr):List Value:=[.ref (a 0), .ref (a 1), .ref (a 2), .ref (a 3), .ref (a 4), .ref (a 5), .ref (a 6), .ref (a 7), .ref (a 8), .ref (a 9), .ref (a 10), .ref (a 11), .ref (a 12), .ref (a 13), .ref (a 14), .ref (a 15), .ref (a 16), .ref (a 17), .ref (a 18), .ref (a 19), .ref (a 20), .ref (a 21), .ref (a 22), .ref (a 23)]
theorem crE (C:CC) (P:RP) (w:World) (t:CT) (q:List Nat) (aOs:Addr) (a:Nat→Addr) (eO eW:Nat) (x:LX) (c:GX) :
    isRet (C.runR P w 1 t q aOs (orefs a) eO eW 24 x c N_crE) (.ok .next) (((C.it,(C.runR P w 1 t q aOs (orefs a) eO eW 24 x c N_crE).ob 0) :: (C.ledR P w.params 1 t q aOs (orefs a) eO eW 24).tail).map some) []:=by
  kernel_rfl
end Mine
end
section
open PySem PySem.W PySem.W.X PySem.Calls PyProof.Rows PySem.SeqAt
namespace Mine
noncomputable def hdOf:Bool→Str | true=>S [34,92] | false=>S [34,92,32,9,10]
structure HE where
  a0:Addr
  b0:Nat
  k0:Nat
  g0:Nat
  oI:Obj
  vs:List Value
  n:Nat
  s1:Nat
  s2:Nat
  s3:Nat
  sv:Str
  b1:Nat
  k1:Nat
  g1:Nat
  J:Str
  tJ:Nat
  b2:Nat
  k2:Nat
  g2:Nat
noncomputable def HE.e0 (e:HE) (W:Str) (tW:Nat):Eff:=⟨.ok (.ret (.ref e.a0)),[],[(e.a0,ascO W tW 0)],e.b0,e.k0,e.g0⟩
noncomputable def HE.e1 (e:HE) (w:Params):Eff:=⟨.ok .next,zipU [7,8,9] [(e.a0,e.oI),(e.b0,listO e.vs e.n),(e.b0+1,dictO w [(k_sign,e.s1, .str e.sv e.s2)] e.s3)],[],e.b1,e.k1,e.g1⟩
noncomputable def HE.e2 (e:HE):Eff:=⟨.ok (.ret (.str e.J e.tJ)),[],[],e.b2,e.k2,e.g2⟩
noncomputable def e00:HE:=⟨0,0,0,0,⟨.none,none, .plain, #[]⟩,[],0,0,0,0,S [],0,0,0,S [],0,0,0,0⟩
noncomputable def objCell (o:Obj):Nat:=match o.data with | .cell (some v)=>Value.tok v | _=>0
noncomputable def wdOf (q:Bool) (J:Str):Str:=match q with | true=>(S [34]++J)++S [34] | false=>J
noncomputable def cWd (q:Bool) (J:Str):List Prop:=match q with | true=>cAdd (S [34]++J) (S [34])++cAdd (S [34]) J | false=>[]
noncomputable def cTail (t:HS) (q:Bool) (wh J:Str):List Prop:=cAdd t.text (wh++wdOf q J)++(cAdd wh (wdOf q J)++((t.xs.length≤1000) :: cWd q J))
noncomputable def HP.run (P:HP) (w:World) (sh:Nat) (t:HS) (b:Bool) (v:Int) (r:Nat) (vs:List Value) (d:Nat) (b2:List Stmt) (e2:PySem.Env) (p2:Pos) (b3:List Stmt) (e3:PySem.Env) (p3 p4:Pos) (c:GX) (N:Nat):Out:=
  (sg w ((.func b2 e2,p2) :: outLaw b3 e3 p3 p4) [0,1,2,3,4,5,6,11] {exs:=[[],[7,8,9,2],[8]],vs:=vs,cs:=[d]} (P.led w.params sh t b v (Int.ofNat (r+1))) c.g c.base c.tk c.gb (sheetLoop P.aI P.aF P.aH) c.p).run 800 N
structure FX where
  b2:List Stmt
  e2:PySem.Env
  p2:Pos
  b3:List Stmt
  e3:PySem.Env
  p3:Pos
  p4:Pos
noncomputable def FX.out (x:FX):Stk:=(.func x.b2 x.e2,x.p2) :: outLaw x.b3 x.e3 x.p3 x.p4
noncomputable def FX.sx (x:FX) (P:HP) (p:Pos):SX:=⟨sheetFor.t, .ref P.aI,sheetFor.b,sheetFor.o,sheetEnv P.aF P.aH,p,x.b2,x.e2,x.p2,x.b3,x.e3,x.p3,x.p4⟩
noncomputable def cQ (x v:Int) (q:Bool):List Prop:=[(Int.fmod (x+v) 2 == 0)=q]
noncomputable def cB (v:Int) (b:Bool):List Prop:=[decide (Int.fmod v 3>0)=b]
noncomputable def cD (v:Int) (d:Nat):List Prop:=[0≤Int.fmod v 4,Int.fmod v 4<1000,(S [32,9,10,13]).cps[(Int.fmod v 4).toNat]? = some d]
noncomputable def HS.nx (t:HS) (q:Bool) (v:Int) (wh J:Str) (a:Addr) (o1 o3:Out):HS:=
  {text:=t.text++(wh++wdOf q J),to:=o3.dt 1 3,shut:=q,xs:=t.xs++[.ref a],eS:=o3.ep 5,eF:=o3.ep 1,pv:=v,tp:=o3.dt 1 5,q:=q,wh:=wh,tw:=o3.dt 1 7,wd:=wdOf q J,td:=o3.dt 1 8,g:=fun i=>o3.kt 1 (5+i),hid:=some (.str (hdOf q) (objCell (o1.ob 3)))}
noncomputable def HE.o1 (e:HE) (W:Str) (tW:Nat) (o:Out):Out:=o.rest (e.e0 W tW)
noncomputable def HE.o2 (e:HE) (w:Params) (W:Str) (tW:Nat) (o:Out):Out:=(e.o1 W tW o).rest (e.e1 w)
noncomputable def HE.o3 (e:HE) (w:Params) (W:Str) (tW:Nat) (o:Out):Out:=(e.o2 w W tW o).rest e.e2
structure ShS (P:HP) (w:World) (x:FX) (t:HS) (q:Bool) (v:Int) (r:Nat) (W:Str) (tW:Nat) (wh:Str) (CS0:List Prop) (o:Out) (e:HE):Prop where
  a:isCut o (.call (.builtin "str.__iter__") ⟨[.str W tW],[]⟩) [] CS0
  b:isCut (e.o1 W tW o) (signStart e.a0 e.b0 (e.b0+1) P.aF P.aH) (([(e.a0,ascO W tW 0),(e.b0,listO [] 0),(e.b0+1,dictO w.params [] 0),(P.aH,cellO (.str (hdOf q) (objCell ((e.o1 W tW o).ob 3))))]:Led).map some) []
  k:(e.o1 W tW o).row.stk=(x.sx P (e.o1 W tW o).sp2).out
  j:isCut (e.o2 w.params W tW o) (.call (.builtin "str.join") ⟨[.str (S []) (Value.tok (Code.argV (e.o2 w.params W tW o).row.c 0)), .ref e.b0],[]⟩) (([(e.b0,listO e.vs e.n)]:Led).map some) []
  z:isAgain (e.o3 w.params W tW o) (sheetLoop P.aI P.aF P.aH) ((P.led w.params 1 (t.nx q v wh e.J (e.b2+1) (e.o1 W tW o) (e.o3 w.params W tW o)) q (v+1) (Int.ofNat (r+1) - 1)++[(e.b2+1,tupO [.str wh ((e.o3 w.params W tW o).dt 7 0), .str (wdOf q e.J) ((e.o3 w.params W tW o).dt 7 1)] 0)]).map some) (cTail t q wh e.J)
noncomputable abbrev HP.runX (P:HP) (w:World) (sh:Nat) (t:HS) (b:Bool) (v:Int) (r:Nat) (X:Int) (tX:Nat) (W:Str) (tW d:Nat) (x:FX) (c:GX) (N:Nat):Out:=P.run w sh t b v r [.int X tX, .str W tW] d x.b2 x.e2 x.p2 x.b3 x.e3 x.p3 x.p4 c N
noncomputable def N_sha0t:Nat:=(zz38+zz2<<<130+0x80000005010050000501405<<<200+0x40000001<<<360+zz2<<<410+13<<<480+zz142<<<490+0x70000000007<<<830+zz9<<<920+zz84<<<950)
theorem sh_a0t (P:HP) (w:World) (t:HS) (v:Int) (r:Nat) (X:Int) (tX:Nat) (W:Str) (tW:Nat) (d:Nat) (x:FX) (c:GX) (e:HE):ShS P w x t true v r W tW ⟨#[d]⟩ (cItem P.wsL v (.str W tW)++(cD v d++(cQ X v true++cItem P.nsL (Int.fdiv v 2) (.int X tX)))) (P.runX w 0 t false v r X tX W tW d x c N_sha0t) e:=
  ⟨by kernel_rfl,by kernel_rfl,by kernel_rfl,by kernel_rfl,by kernel_rfl⟩
noncomputable def N_sha0f:Nat:=(zz38+zz2<<<130+0x80000005010050000501405<<<200+0x80000001<<<360+zz2<<<410+13<<<480+zz142<<<490+zz84<<<830)
theorem sh_a0f (P:HP) (w:World) (t:HS) (v:Int) (r:Nat) (X:Int) (tX:Nat) (W:Str) (tW:Nat) (d:Nat) (x:FX) (c:GX) (e:HE):ShS P w x t false v r W tW ⟨#[d]⟩ (cItem P.wsL v (.str W tW)++(cD v d++(cQ X v false++cItem P.nsL (Int.fdiv v 2) (.int X tX)))) (P.runX w 0 t false v r X tX W tW d x c N_sha0f) e:=
  ⟨by kernel_rfl,by kernel_rfl,by kernel_rfl,by kernel_rfl,by kernel_rfl⟩
noncomputable def N_sha1t:Nat:=(zz38+zz2<<<130+0x80000005010050000501405<<<200+0x40000001<<<360+zz2<<<410+13<<<480+zz142<<<490+0x70000000007<<<830+zz9<<<920+zz84<<<950)
theorem sh_a1t (P:HP) (w:World) (t:HS) (v:Int) (r:Nat) (X:Int) (tX:Nat) (W:Str) (tW:Nat) (d:Nat) (x:FX) (c:GX) (e:HE):ShS P w x t true v r W tW ⟨#[d]⟩ (cItem P.wsL v (.str W tW)++(cD v d++(cQ X v true++cItem P.nsL (Int.fdiv v 2) (.int X tX)))) (P.runX w 1 t false v r X tX W tW d x c N_sha1t) e:=
  ⟨by kernel_rfl,by kernel_rfl,by kernel_rfl,by kernel_rfl,by kernel_rfl⟩
noncomputable def N_sha1f:Nat:=(zz38+zz2<<<130+0x80000005010050000501405<<<200+0x80000001<<<360+zz2<<<410+13<<<480+zz142<<<490+zz84<<<830)
theorem sh_a1f (P:HP) (w:World) (t:HS) (v:Int) (r:Nat) (X:Int) (tX:Nat) (W:Str) (tW:Nat) (d:Nat) (x:FX) (c:GX) (e:HE):ShS P w x t false v r W tW ⟨#[d]⟩ (cItem P.wsL v (.str W tW)++(cD v d++(cQ X v false++cItem P.nsL (Int.fdiv v 2) (.int X tX)))) (P.runX w 1 t false v r X tX W tW d x c N_sha1f) e:=
  ⟨by kernel_rfl,by kernel_rfl,by kernel_rfl,by kernel_rfl,by kernel_rfl⟩
noncomputable def N_shb1t:Nat:=(zz38+zz2<<<130+0x80000005010050000501405<<<200+0x40000001<<<360+zz2<<<410+0x40000001<<<480+zz9<<<530+0x180a0280a013ff0200200400004040100400004010040080200c03<<<560+zz2<<<790+0x70000000007<<<830+zz9<<<920+zz84<<<950)
theorem sh_b1t (P:HP) (w:World) (t:HS) (v:Int) (r:Nat) (X:Int) (tX:Nat) (W:Str) (tW:Nat) (x:FX) (c:GX) (e:HE):ShS P w x t true v r W tW (S []) (cItem P.wsL v (.str W tW)++(cB v true++(cQ X v true++cItem P.nsL (Int.fdiv v 2) (.int X tX)))) (P.runX w 1 t true v r X tX W tW 0 x c N_shb1t) e:=
  ⟨by kernel_rfl,by kernel_rfl,by kernel_rfl,by kernel_rfl,by kernel_rfl⟩
noncomputable def N_shb1f:Nat:=(zz38+zz2<<<130+0x80000005010050000501405<<<200+0x80000001<<<360+zz2<<<410+0x40000001<<<480+zz9<<<530+0x180a0280a013ff0200200400004040100400004010040080200c03<<<560+zz2<<<790+zz84<<<830)
theorem sh_b1f (P:HP) (w:World) (t:HS) (v:Int) (r:Nat) (X:Int) (tX:Nat) (W:Str) (tW:Nat) (x:FX) (c:GX) (e:HE):ShS P w x t false v r W tW (S []) (cItem P.wsL v (.str W tW)++(cB v true++(cQ X v false++cItem P.nsL (Int.fdiv v 2) (.int X tX)))) (P.runX w 1 t true v r X tX W tW 0 x c N_shb1f) e:=
  ⟨by kernel_rfl,by kernel_rfl,by kernel_rfl,by kernel_rfl,by kernel_rfl⟩
noncomputable def N_shc1t:Nat:=(zz38+zz2<<<130+0x80000005010050000501405<<<200+0x40000001<<<360+zz2<<<410+zz50<<<480+13<<<560+zz142<<<570+0x70000000007<<<910+zz9<<<1000+zz84<<<1030)
theorem sh_c1t (P:HP) (w:World) (t:HS) (v:Int) (r:Nat) (X:Int) (tX:Nat) (W:Str) (tW:Nat) (d:Nat) (x:FX) (c:GX) (e:HE):ShS P w x t true v r W tW ⟨#[d]⟩ (cItem P.wsL v (.str W tW)++(cD v d++(cB v false++(cQ X v true++cItem P.nsL (Int.fdiv v 2) (.int X tX))))) (P.runX w 1 t true v r X tX W tW d x c N_shc1t) e:=
  ⟨by kernel_rfl,by kernel_rfl,by kernel_rfl,by kernel_rfl,by kernel_rfl⟩
noncomputable def N_shc1f:Nat:=(zz38+zz2<<<130+0x80000005010050000501405<<<200+0x80000001<<<360+zz2<<<410+zz50<<<480+13<<<560+zz142<<<570+zz84<<<910)
theorem sh_c1f (P:HP) (w:World) (t:HS) (v:Int) (r:Nat) (X:Int) (tX:Nat) (W:Str) (tW:Nat) (d:Nat) (x:FX) (c:GX) (e:HE):ShS P w x t false v r W tW ⟨#[d]⟩ (cItem P.wsL v (.str W tW)++(cD v d++(cB v false++(cQ X v false++cItem P.nsL (Int.fdiv v 2) (.int X tX))))) (P.runX w 1 t true v r X tX W tW d x c N_shc1f) e:=
  ⟨by kernel_rfl,by kernel_rfl,by kernel_rfl,by kernel_rfl,by kernel_rfl⟩
end Mine
end
section
open PySem PySem.W PySem.W.X PySem.Calls PyProof.Rows PySem.SeqAt
namespace Mine
noncomputable def genO:Obj:=⟨.type "generator", none, .plain, #[]⟩
noncomputable def jnB (P:Params) (g l:Addr) (its:List (Str × Nat)) (n:Nat) (T:Sem Fin):Sem Fin:=
  adv 60 [.obj genO, .obj genO, .obj genO, .ask ⟨pw,P⟩, .res (.ok (.ret (.ref g))), .obj genO, .res (.ok (.ret (.ref l))), .obj (listO (its.map fun x => .str x.1 x.2) n)] T
noncomputable def jnT (den:Code→Sem Fin) (P:Params) (g l:Addr) (tj:Nat) (its:List (Str × Nat)) (n:Nat):Sem Fin:=jnB P g l its n (den (.builtin "str.join" ⟨[.str (S []) tj, .ref g],[]⟩))
noncomputable def jnR (ys:List Str):Sem Fin:=retStr (Builtin.Str.glued (S []) ys)
noncomputable def jnF (ys:List Str) (b:Bool):Sem Fin:=if b=true then (unsupported "str.join:memory" : Sem PUnit).bind (fun _=>jnR ys) else jnR ys
theorem jn_eq (w:World) (g l:Addr) (tj n:Nat) (y0 y1 y2 y3 y4 y5 y6 y7:Str) (t0 t1 t2 t3 t4 t5 t6 t7:Nat) :
    jnB (parB PySem.W.S.strDecS w.params true) g l [(y0,t0),(y1,t1),(y2,t2),(y3,t3),(y4,t4),(y5,t5),(y6,t6),(y7,t7)] n (Builtin.«str.join» ⟨[.str (S []) tj, .ref g],[]⟩) =
    jnF [y0,y1,y2,y3,y4,y5,y6,y7] (Builtin.Str.tooLong ([y0,y1,y2,y3,y4,y5,y6,y7].toArray.foldl (· + ·.length+(S []).length) 0)):=by
  kernel_rfl
noncomputable def jnZ (ys:List Str):Sem Fin:=(do return .str (Builtin.Str.glued (S []) ys) (← fresh):Sem Value) >>= ret
theorem jnZ_eq (ys:List Str) (h:(Builtin.Str.glued (S []) ys).length≤16777216):jnR ys=jnZ ys:=by
  unfold jnR jnZ retStr mkStr
  rw [if_neg (by unfold sizeLine; lia)]
noncomputable def altJ (w:World) (g l:Addr) (tj:Nat) (its:List (Str × Nat)) (n:Nat):Sem Fin × Sem Fin:=(jnT denF (parB PySem.W.S.strDecS w.params true) g l tj its n,jnZ (its.map (·.1)))
theorem altJ_ok (w:World) (g l:Addr) (tj n:Nat) (y0 y1 y2 y3 y4 y5 y6 y7:Str) (t0 t1 t2 t3 t4 t5 t6 t7:Nat) (h:Builtin.Str.tooLong ([y0,y1,y2,y3,y4,y5,y6,y7].toArray.foldl (· + ·.length+(S []).length) 0)=false) (hl:(Builtin.Str.glued (S []) [y0,y1,y2,y3,y4,y5,y6,y7]).length≤16777216) :
    (altJ w g l tj [(y0,t0),(y1,t1),(y2,t2),(y3,t3),(y4,t4),(y5,t5),(y6,t6),(y7,t7)] n).1=(altJ w g l tj [(y0,t0),(y1,t1),(y2,t2),(y3,t3),(y4,t4),(y5,t5),(y6,t6),(y7,t7)] n).2:=by
  have e:=jn_eq w g l tj n y0 y1 y2 y3 y4 y5 y6 y7 t0 t1 t2 t3 t4 t5 t6 t7
  rw [h] at e
  show jnB (parB PySem.W.S.strDecS w.params true) g l [(y0,t0),(y1,t1),(y2,t2),(y3,t3),(y4,t4),(y5,t5),(y6,t6),(y7,t7)] n (denF (.builtin "str.join" ⟨[.str (S []) tj, .ref g],[]⟩))=jnZ [y0,y1,y2,y3,y4,y5,y6,y7]
  rw [den_builtin (b:=Builtin.«str.join») (entryFor_of_tree (by kernel_rfl)),e]
  exact jnZ_eq _ hl
noncomputable def exB (T:Sem Fin):Sem Fin:=adv 5 [.obj genO] T
noncomputable def exT (den:Code→Sem Fin) (l g:Addr):Sem Fin:=exB (den (.builtin "list.__iadd__" ⟨[.ref l, .ref g],[]⟩))
noncomputable def ex2 (l g:Addr) (h:l≠g):{T2:Sem Fin // exB (Builtin.«list.__iadd__» ⟨[.ref l, .ref g],[]⟩)=T2}:=by
  apply Subtype.mk
  have e : ∀ (c:Prop) [Decidable c] (A B X:Sem Fin),¬ c→B=X→ite c A B=X:=fun c _ A B X hc hA=>by rw [if_neg hc,hA]
  refine e _ _ _ _ ?_ rfl
  show ¬ (((l == g) || _ || _)=true)
  have:(l == g)=false:=by simpa using h
  rw [this]
  decide
noncomputable def altX (l g:Addr) (h:l≠g):Sem Fin × Sem Fin:=(exT denF l g,(ex2 l g h).val)
theorem altX_ok (l g:Addr) (h:l≠g):(altX l g h).1=(altX l g h).2:=by
  refine Eq.trans ?_ (ex2 l g h).property
  show exB (denF (.builtin "list.__iadd__" ⟨[.ref l, .ref g],[]⟩))=_
  rw [den_builtin (b:=Builtin.«list.__iadd__») (entryFor_of_tree (by kernel_rfl))]
end Mine
end
section
open PySem PySem.W PySem.W.X PySem.Calls PyProof.Rows PySem.SeqAt
namespace Mine
noncomputable def N_strj:Nat:=(1<<<40+0xc00000000000300c<<<130+zz75<<<200+0x1304c1304c1304c120481200012000010481204801ff400000120001200001048120480000011044000000000c0300c03000000000d<<<330+zz22<<<770+0xd0340d0040d03400034000340d<<<860+zz81<<<970+0x40005c150441100011044000441100016050140101405000050000500005014010140500005000050000501401014050000500005014<<<1040+zz66<<<1500+zz78<<<1740+0x80006c15044110001104400044110001a060180141806000060000600006018014180600006000060000601801418060000600006018<<<1810+zz66<<<2270+zz143<<<2510+0x1e0701c0181c0700007000070000701c0181c0700007000070000701c0181c07000070000701c<<<2580+zz85<<<2890+0x30001f<<<2990+zz66<<<3040+0x70802000020000200800001c000040701c07<<<3280+zz144<<<3430+7<<<3520+zz144<<<3530+0x882008007<<<3620+zz85<<<3660+0x400023<<<3760+zz66<<<3810+0x20000040802008<<<4050+zz72<<<4110+8<<<4190+zz42<<<4200+8<<<4290+zz42<<<4300+0x982409008<<<4390+zz85<<<4430+0x500027<<<4530+zz66<<<4580+0xa8280a0090a0280002800028000280a0090a0280002800028000280a0090a02800028000280a000024000040902409<<<4820+zz85<<<5200+0x60002b<<<5300+zz66<<<5350+0xb82c0b00a0b02c0002c0002c0002c0b00a0b02c0002c0002c0002c0b00a0b02c0002c0002c0b000028000040a0280a<<<5590+zz85<<<5970+0x70002f<<<6070+zz66<<<6120+0xc8300c00b0c0300003000030000300c00b0c0300003000030000300c00b0c03000030000300c00002c000040b02c0b<<<6360+zz85<<<6740+0x4c1304c000000800033<<<6840+zz22<<<6930+0x13003fd0dc000d40d034010340d0000d0000d<<<7030)
noncomputable def PQ.tx (z:PQ):Str:=Builtin.Str.glued (S []) [z.w,z.n]
noncomputable def strCS:List PQ→List Str→List Prop→List Prop
  | z :: ps,y :: ys,l=>strCS ps ys ((z.tx=y) :: (z.tx.length≤16777216) :: (Builtin.Str.tooLong ([z.w,z.n].toArray.foldl (· + ·.length+(S []).length) 0)=false) :: l)
  | _,_,l=>l
structure GJ where
  g:Gh
  base:Nat
  tk:Nat
  gb:Nat
  p:Pos
noncomputable def AP.strRun (a:AP) (w:World) (ps:List PQ) (its:List (Str × Nat)) (ol:Stk) (c:GJ) (h:c.base+7≠c.base+6):Out:=
  (sg w ol [0,1,2,3,4,5,6,7,8,9,10] {alts:=[altJ w (c.base+6) (c.base+7) 196 its 10,altX (c.base+7) (c.base+6) h],ss:=its.map (·.1)} (a.lenL w.params (tabE 70) ps) c.g c.base c.tk c.gb (.call (.type "str") ⟨[.ref a.aP],[]⟩) c.p).run 1200 N_strj
theorem str_run (w:World) (a:AP) (z0 z1 z2 z3 z4 z5 z6 z7:PQ) (y0 y1 y2 y3 y4 y5 y6 y7:Str) (b:List Stmt) (e:PySem.Env) (pf:Pos) (b2:List Stmt) (e2:PySem.Env) (p2 p3:Pos) (c:GJ) (h:c.base+7≠c.base+6) :
    isRet (a.strRun w [z0,z1,z2,z3,z4,z5,z6,z7] [(y0,c.tk+11),(y1,c.tk+14),(y2,c.tk+17),(y3,c.tk+20),(y4,c.tk+23),(y5,c.tk+26),(y6,c.tk+29),(y7,c.tk+32)] ((.func b e,pf) :: outLaw b2 e2 p2 p3) c h) (.ok (.ret (.str (Builtin.Str.glued (S []) [y0,y1,y2,y3,y4,y5,y6,y7]) (c.tk+33)))) ((a.lenL w.params (70,tabO 29 32 (c.base+4)) [z0,z1,z2,z3,z4,z5,z6,z7]).map some) (strCS [z0,z1,z2,z3,z4,z5,z6,z7] [y0,y1,y2,y3,y4,y5,y6,y7] []):=by
  kernel_rfl
end Mine
end
section
open PySem PySem.W PySem.W.X PySem.Calls PyProof.Rows PySem.SeqAt
namespace Mine
noncomputable def N_shw:Nat:=(0x50140001405<<<30+0x140500005014000140500002<<<140+zz93<<<300+1<<<380+zz5<<<400+0x50040000001000000000f01400000080140000001000000040501805000000100a<<<450)
structure WX where
  b:List Stmt
  e:PySem.Env
  p3:Pos
  p4:Pos
structure WE where
  n:Nat
  aD:Addr
  kk:Nat
  b0:Nat
  k0:Nat
  g0:Nat
  b1:Nat
  k1:Nat
  g1:Nat
  Y:Str
  tY:Nat
  ac7:Addr
  b2:Nat
  k2:Nat
  g2:Nat
  m:Int
  tm:Nat
  ac6:Addr
  b3:Nat
  k3:Nat
  g3:Nat
noncomputable abbrev WE.aS (e:WE):Addr:=e.n+236
noncomputable def WE.ap (e:WE) (t:HS):AP:=⟨e.n,e.aD,[],t.eS,0,e.kk,210,1⟩
noncomputable def WE.e0 (e:WE) (w:Params):Eff:=⟨.ok (.ret (.ref e.aS)),[],[(e.aS,accO e.aD [] 0),(e.aD,sizeO w 0 e.kk 210 1)],e.b0,e.k0,e.g0⟩
noncomputable def WE.e1 (e:WE) (w:Params) (P:HP) (t:HS) (ps:List PQ):Eff:=⟨.ok .next,zipU [9,4,5,6] [(P.aI,ritO 8 0),(P.aF,P.frame w 1 t t.shut),(P.aH,⟨.type "cell", none, .cell t.hid, #[]⟩),(e.aS,accO e.aD (refsOf ps) t.eS)],ps.flatMap PQ.led,e.b1,e.k1,e.g1⟩
noncomputable def WE.e2 (e:WE):Eff:=⟨.ok (.ret (.str e.Y e.tY)),zipU [3] [(70,tabO 29 32 e.ac7)],[],e.b2,e.k2,e.g2⟩
noncomputable def WE.e3 (e:WE):Eff:=⟨.ok (.ret (.int e.m e.tm)),zipU [2] [tab63 e.ac6],[],e.b3,e.k3,e.g3⟩
noncomputable def HP.in (P:HP) (c:GX) (e:WE):HP:={P with aI:=e.b0+1,aF:=c.base,aH:=c.base+1,aS:=e.aS,aD:=e.aD,f:=fun i=>match i with | 0=>c.tk | 1=>c.tk+1 | 2=>e.k0 | 3=>e.k0+2 | i=>e.k0+3,k0:=e.kk,tz:=210,eD:=1}
noncomputable def HS.in (t:HS) (e:WE):HS:={t with text:=S [],to:=e.k0+1,xs:=[],eS:=0,eF:=5,hid:=none}
noncomputable def HP.runW (P:HP) (w:World) (x:WX) (c:GX):Out:=
  (sg w (outLaw x.b x.e x.p3 x.p4) [0,1,2,3] {exs:=[[],[9,4,5,0,1,6,7],[6,7,3,10,11,12,13,14,15,16,17],[6,7,2,10,11,12,13,14,15,16,17]]} [(P.aW,listO P.wsL P.eW),(P.aN,listO P.nsL P.eN),tabE 63,tabE 70] c.g c.base c.tk c.gb (.call (.ref 215) ⟨[.ref P.aW, .ref P.aN],[]⟩) c.p).run 800 N_shw
theorem sheet_run (P:HP) (w:World) (t:HS) (z0 z1 z2 z3 z4 z5 z6 z7:PQ) (x:WX) (c:GX) (e:WE) :
    (isCut (P.runW w x c) (.call (.ref 101) ⟨[],[]⟩) [] []∧(P.runW w x c).row.stk=(.func sheetD.b (sheetEnv c.base (c.base+1)),(P.runW w x c).sp2) :: outLaw x.b x.e x.p3 x.p4) ∧
    (isCut ((P.runW w x c).rest (e.e0 w.params)) (sheetLoop (e.b0+1) c.base (c.base+1)) (((P.in c e).led w.params 0 (t.in e) false 0 8).map some) []∧((P.runW w x c).rest (e.e0 w.params)).row.stk=(.func sheetD.b (sheetEnv c.base (c.base+1)),((P.runW w x c).rest (e.e0 w.params)).sp2) :: outLaw x.b x.e x.p3 x.p4) ∧
    (isCut (((P.runW w x c).rest (e.e0 w.params)).rest (e.e1 w.params (P.in c e) t [z0,z1,z2,z3,z4,z5,z6,z7])) (.call (.type "str") ⟨[.ref e.aS],[]⟩) ((AP.lenL (e.ap t) w.params (tabE 70) [z0,z1,z2,z3,z4,z5,z6,z7]).map some) []∧(((P.runW w x c).rest (e.e0 w.params)).rest (e.e1 w.params (P.in c e) t [z0,z1,z2,z3,z4,z5,z6,z7])).row.stk=(.func sheetD.b (sheetEnv c.base (c.base+1)),(((P.runW w x c).rest (e.e0 w.params)).rest (e.e1 w.params (P.in c e) t [z0,z1,z2,z3,z4,z5,z6,z7])).sp2) :: outLaw x.b x.e x.p3 x.p4) ∧
    (isCut ((((P.runW w x c).rest (e.e0 w.params)).rest (e.e1 w.params (P.in c e) t [z0,z1,z2,z3,z4,z5,z6,z7])).rest e.e2) (.call (.builtin "len") ⟨[.ref e.aS],[]⟩) ((AP.lenL (e.ap t) w.params (tabE 63) [z0,z1,z2,z3,z4,z5,z6,z7]).map some) [(e.Y.cps.toList == t.text.cps.toList)=true]∧((((P.runW w x c).rest (e.e0 w.params)).rest (e.e1 w.params (P.in c e) t [z0,z1,z2,z3,z4,z5,z6,z7])).rest e.e2).row.stk=(.func sheetD.b (sheetEnv c.base (c.base+1)),((((P.runW w x c).rest (e.e0 w.params)).rest (e.e1 w.params (P.in c e) t [z0,z1,z2,z3,z4,z5,z6,z7])).rest e.e2).sp2) :: outLaw x.b x.e x.p3 x.p4) ∧
    isRet (((((P.runW w x c).rest (e.e0 w.params)).rest (e.e1 w.params (P.in c e) t [z0,z1,z2,z3,z4,z5,z6,z7])).rest e.e2).rest e.e3) (.ok (.ret (.str t.text t.to))) ([(P.aW,listO P.wsL P.eW),(P.aN,listO P.nsL P.eN),tab63 e.ac6,(70,tabO 29 32 e.ac7)].map some) (((e.m == Int.ofNat t.text.length)=true) :: cLen t.text):=by
  refine ⟨⟨?_, ?_⟩,⟨?_, ?_⟩,⟨?_, ?_⟩,⟨?_, ?_⟩, ?_⟩ <;> kernel_rfl
end Mine
end
section
open PySem PySem.W PySem.W.X PySem.Calls PyProof.Rows PySem.SeqAt
namespace Mine
noncomputable def N_words:Nat:=(0x300c00000000000300c0000c03<<<30+0x140001405<<<200+zz78<<<250+0x6018060180001800018000180501405<<<320+zz1<<<450+0x30000200002000020080200c0300c03<<<500+0x40100c03010040100400c0300c00000000000d<<<690+zz0<<<850+0x700000000090000000c04010040100301004010000100000001<<<890+0x200002000020080200c03<<<1150+0x2c01<<<1310+0x40100400004000010000001c000000001c030000000007<<<1410+zz79<<<1610+0x30000200002000020080200c0300c03<<<1740+0x40100c03010040100400c0300c00000010000d<<<1930+zz0<<<2090+0x700000000090000000c04010040100301004010000100000001<<<2130+0x200002000020080200c03<<<2390+0x2c01<<<2550+0x40100400004000020000001c000000001c030000000007<<<2650+zz79<<<2850+0x30000200002000020080200c0300c03<<<2980+0x40100c03010040100400c0300c00000020000d<<<3170+zz0<<<3330+0x700000000090000000c04010040100301004010000100000001<<<3370+0x200002000020080200c03<<<3630+0x2c01<<<3790+0x40100400004000030000001c000000001c030000000007<<<3890+zz79<<<4090+0x30000200002000020080200c0300c03<<<4220+0x40100c03010040100400c0300c00000030000d<<<4410+zz0<<<4570+0x700000000090000000c04010040100301004010000100000001<<<4610+0x200002000020080200c03<<<4870+0x2c01<<<5030+0x600006000040100400004000040000001c000000001c030000000007<<<5130+zz1<<<5370+0x300008<<<5400)
structure WP where
  aN:Addr
  aX:Addr
  t0:Nat
  t1:Nat
  t2:Nat
  t3:Nat
  eN:Nat
  x:Nat→Int
  u:Nat→Nat
  eX:Nat
  m:Nat→Nat
  R:Nat→Str
noncomputable def WP.led (P:WP):Led:=[(P.aN,namesO P.t0 P.t1 P.t2 P.t3 P.eN),(P.aX,intsO [(P.x 0,P.u 0),(P.x 1,P.u 1),(P.x 2,P.u 2),(P.x 3,P.u 3)] P.eX)]
noncomputable def marksS:Str:=S [124,34,92,32,40,9,10]
noncomputable def h229:Str:=S [50,50,57,40]
noncomputable def mkS (P:WP) (i:Nat):Str:=⟨#[P.m i]⟩
noncomputable def wA (P:WP) (i:Nat):Str:=h229++rep (mkS P i) 3
noncomputable def wB (P:WP) (i:Nat):Str:=wA P i++Str.ofString (toString (P.x i))
noncomputable def wC (P:WP) (i:Nat):Str:=wB P i++mkS P i
noncomputable def wD (P:WP) (i:Nat):Str:=wC P i++S [41]
noncomputable def cMark (P:WP) (i:Nat):List Prop:=[0≤Int.fmod (P.x i+Int.ofNat i) 7,Int.fmod (P.x i+Int.ofNat i) 7<1000,marksS.cps[(Int.fmod (P.x i+Int.ofNat i) 7).toNat]? = some (P.m i)]
noncomputable def cTurn (P:WP) (i:Nat):List Prop:=(wD P i=P.R i) :: (cAdd (wC P i) (S [41])++(cAdd (wB P i) (mkS P i)++(cAdd (wA P i) (Str.ofString (toString (P.x i)))++(((P.x i).natAbs≤1000) :: (cAdd h229 (rep (mkS P i) 3)++(cMul (mkS P i) 3++cMark P i))))))
noncomputable def WP.run (P:WP) (w:World) (b:List Stmt) (e:PySem.Env) (p3 p4:Pos) (c:GX):Out:=
  (sg w (outLaw b e p3 p4) [0,1,3] {ss:=[P.R 0,P.R 1,P.R 2,P.R 3],cs:=[P.m 0,P.m 1,P.m 2,P.m 3]} P.led c.g c.base c.tk c.gb (.call (.ref 210) ⟨[.ref P.aN, .ref P.aX],[]⟩) c.p).run 1000 N_words
theorem words_run (P:WP) (w:World) (b:List Stmt) (e:PySem.Env) (p3 p4:Pos) (c:GX) :
    isRet (P.run w b e p3 p4 c) (.ok (.ret (.ref (c.base+1)))) ((P.led++[(c.base+1,listO [.str (S [34]) P.t0, .str (P.R 0) ((P.run w b e p3 p4 c).dt 2 1), .str (S [92]) P.t1, .str (P.R 1) ((P.run w b e p3 p4 c).dt 2 3), .str (S [32]) P.t2, .str (P.R 2) ((P.run w b e p3 p4 c).dt 2 5), .str (S [10]) P.t3, .str (P.R 3) ((P.run w b e p3 p4 c).dt 2 7)] 8)]).map some) (cTurn P 3++(cTurn P 2++(cTurn P 1++cTurn P 0))):=by
  kernel_rfl
end Mine
end
section
open PySem PySem.W PySem.W.X PySem.Calls PyProof.Rows PySem.SeqAt
namespace Mine
noncomputable def N_parse:Nat:=(0x2008000000000401000030440200000000020080000802<<<30+zz9<<<230+0x80000000008020000000001<<<260+zz9<<<370+zz46<<<400+0x34000000000802000000000d<<<490+zz46<<<620+0x404402<<<710+zz9<<<750+0x10040200000000010000001400014000140000002000000080200002000000000d<<<810+zz0<<<1080+0x20000500005000050140500800000020080000001<<<1120+zz2<<<1300)
noncomputable def parseD:FD:=defAt 8 none
noncomputable def sParse:Str:=S [112,97,114,115,101,50,50,57,46,60,108,111,99,97,108,115,62,46]
noncomputable def parseEnv (L:Addr):PySem.Env:=fnEnv parseD L sParse 149 (.ref 148)
structure PR where
  R:Str
  tR:Nat
  aP:Addr
  nm:Str
  tn:Nat
  tx:Nat
  eP:Nat
  m:Nat
  rt:Int
  I:Str
  N:Str
  v:Int
structure PE where
  t0:Nat
  b0:Nat
  k0:Nat
  g0:Nat
  t1:Nat
  b1:Nat
  k1:Nat
  g1:Nat
  aL:Addr
  s0:Str
  s1:Str
  s2:Str
  s4:Str
  u:Nat→Nat
  nL:Nat
  b2:Nat
  k2:Nat
  g2:Nat
  t3:Nat
  b3:Nat
  k3:Nat
  g3:Nat
  rt:Int
  v:Int
noncomputable def PE.e0 (e:PE):Eff:=⟨.ok (.ret (.int 3 e.t0)),[],[],e.b0,e.k0,e.g0⟩
noncomputable def PE.e1 (e:PE):Eff:=⟨.ok (.ret (.int e.rt e.t1)),[],[],e.b1,e.k1,e.g1⟩
noncomputable def PE.e2 (e:PE) (P:PR):Eff:=⟨.ok (.ret (.ref e.aL)),[],[(e.aL,listO [.str e.s0 (e.u 0), .str e.s1 (e.u 1), .str e.s2 (e.u 2), .str P.N (e.u 3), .str e.s4 (e.u 4)] e.nL)],e.b2,e.k2,e.g2⟩
noncomputable def PE.e3 (e:PE):Eff:=⟨.ok (.ret (.int e.v e.t3)),[],[],e.b3,e.k3,e.g3⟩
noncomputable def cAt (x:Str) (i:Int) (d:Nat):List Prop:=[0≤i,i<1000,x.cps[i.toNat]? = some d]
noncomputable def PR.led (P:PR):Led:=[(P.aP,listO [.str P.nm P.tn, .str (S [120]) P.tx] P.eP)]
noncomputable def PR.run (P:PR) (w:World) (o:OP) (c:GX):Out:=
  (sg w o.out [0,5] {exs:=[[]],ss:=[S [50,50,57],P.I],cs:=[P.m]} P.led c.g c.base c.tk c.gb (.call (.ref 149) ⟨[.str P.R P.tR, .ref P.aP],[]⟩) c.p).run 400 N_parse
theorem parse_run (P:PR) (w:World) (o:OP) (c:GX) (e:PE) :
    (∃ a,isCut (P.run w o c) (.call (.builtin "str.find") ⟨[.str P.R P.tR, .str (S [40]) a],[]⟩) [] [slc P.R none (some (3,c.tk+2))=S [50,50,57],(slc P.R none (some (3,c.tk+2))).length≤16777216]∧(P.run w o c).row.stk=outFn parseD.b (parseEnv c.base) (P.run w o c).sp2 o) ∧
    (∃ a b,isCut ((P.run w o c).rest e.e0) (.call (.builtin "str.find") ⟨[.str P.R P.tR, .str (S [41]) a, .int 4 b],[]⟩) [] []∧((P.run w o c).rest e.e0).row.stk=outFn parseD.b (parseEnv c.base) ((P.run w o c).rest e.e0).sp2 o) ∧
    (∃ a a2 a3,isCut (((P.run w o c).rest e.e0).rest e.e1) (.call (.builtin "str.split") ⟨[.str P.I a, .str ⟨#[P.m]⟩ a2],[]⟩) [] (cAt P.R 4 P.m++([slc P.R (some (4,a3)) (some (e.rt,e.t1))=P.I,(slc P.R (some (4,a3)) (some (e.rt,e.t1))).length≤16777216]++((((⟨#[P.m]⟩:Str).cps.toList != (⟨#[P.m]⟩:Str).cps.toList)=false) :: (cAt P.R (e.rt - 1) P.m++(cAt P.R 4 P.m++[decide (e.rt<0)=false])))))∧(((P.run w o c).rest e.e0).rest e.e1).row.stk=outFn parseD.b (parseEnv c.base) (((P.run w o c).rest e.e0).rest e.e1).sp2 o) ∧
    (isCut ((((P.run w o c).rest e.e0).rest e.e1).rest (e.e2 P)) (.call (.type "int") ⟨[.str P.N (e.u 3)],[]⟩) [] []∧((((P.run w o c).rest e.e0).rest e.e1).rest (e.e2 P)).row.stk=outFn parseD.b (parseEnv c.base) ((((P.run w o c).rest e.e0).rest e.e1).rest (e.e2 P)).sp2 o) ∧
    isRet (((((P.run w o c).rest e.e0).rest e.e1).rest (e.e2 P)).rest e.e3) (.ok (.ret (.ref e.b3))) ([(P.aP,listO [.str P.nm P.tn, .str (S [120]) P.tx] P.eP),(e.b3,tupO [.str P.nm P.tn, .int e.v e.t3] 0)].map some) []:=by
  refine ⟨⟨Value.tok (Code.argV (P.run w o c).row.c 1), ?_, ?_⟩,⟨Value.tok (Code.argV ((P.run w o c).rest e.e0).row.c 1),Value.tok (Code.argV ((P.run w o c).rest e.e0).row.c 2), ?_, ?_⟩,⟨Value.tok (Code.argV (((P.run w o c).rest e.e0).rest e.e1).row.c 0),Value.tok (Code.argV (((P.run w o c).rest e.e0).rest e.e1).row.c 1),e.k1+9, ?_, ?_⟩,⟨?_, ?_⟩, ?_⟩ <;> kernel_rfl
end Mine
end
section
open PySem PySem.W PySem.W.X PySem.Calls PyProof.Rows PySem.SeqAt
namespace Mine
noncomputable def N_main:Nat:=(0x2409020000140001405000060000702000020080100001c060000701c020000500006018000000001405<<<30+0x200000004000000003805000120001104400000000440000000000110240c0041d0801d0001f0401f000100001007c100201e0781e02bff0701b06c1b0001b0000106c1b06c0006c0006c1b<<<430+0x5090240900501400043ff0882108421000210000108421084000840008421<<<1100+0x2a0a8290a42900029000010a4290a4000a4000a429<<<1410+zz153<<<1580+zz153<<<2000+zz153<<<2420+zz153<<<2840+0x35000000d435000350d4000e0360d8250d8360003600036000360d8250d8360003600036000360d8250d83600036000360d8000940000425094250cc330cc230cc3300033000330cc33000230000108c2301412004230ac230002c0b02c0c82a0a82a0002a0002a<<<3260+0x2c01<<<4150+0x35000000d435000350d4000ec390e4260e4390003900039000390e4260e4390003900039000390e4260e43900039000390e4000980000426098260cc330cc230cc330003300033000340d03400034<<<4260+0x2c01<<<4950+0x35000000d435000350d4000f83c0f0270f03c0003c0003c0003c0f0270f03c0003c0003c0003c0f0270f03c0003c0003c0f00009c000042709c270cc330cc230cc330003300033000340d03400034<<<5060+0x2c01<<<5750+0x35000000d435000350d4001043f0fc280fc3f0003f0003f0003f0fc280fc3f0003f0003f0003f0fc280fc3f0003f0003f0fc000a000004280a0280cc330cc230cc330003300033000340d03400034<<<5860+0x2c01<<<6550+0x460000011846000001104403c441100011000110441100003c000040f03c070d4350d4350d43510c330cc230cc330003300033000340d03400034<<<6660+0x2c01<<<7190+0x118000004611800000441100f110440004400044000451144500045<<<7300+0x2c01<<<7580+0x118000004611800000441100f110440004400044000451144500045<<<7690+0x2c01<<<7970+0x118000004611800000441100f110440004400044000451144500045<<<8080+0x2c01<<<8360+0x4912449000230000108c230141400434114340004611846120441100f110440004400044000451144500045<<<8470+zz154<<<8820+0x1384c130251304c0004c0004c0004c130251304c0004c0004c0004c130251304c0004c0004c13000094000042509425<<<8910+zz155<<<9290+zz154<<<9440+0x1444f13c2613c4f0004f0004f0004f13c2613c4f0004f0004f0004f13c2613c4f0004f0004f13c00098000042609826<<<9530+zz155<<<9910+zz154<<<10060+0x1505214827148520005200052000521482714852000520005200052148271485200052000521480009c000042709c27<<<10150+zz155<<<10530+zz154<<<10680+0x15c551542815455000550005500055154281545500055000550005515428154550005500055154000a000004280a028<<<10770+zz155<<<11150+0x300c03018000000000b02c16000000280a12c4b12c4b12c4b16449124231244900049<<<11310+zz156<<<11590+0x30731cc73000001cc001d4751d0730000000073000000007300000000731d400000001d475000751d4001d475<<<11790+zz156<<<12150+0x301a<<<12310+zz156<<<12330+0x301c<<<12490+zz156<<<12510+0x20004771e4770001e<<<12670+0xb00120084200000a88320c830a3ff20400168000045a1680b0000009805000000340d09000000001f47d1f4050140008bff1ec7a1e87a0007a000011e87a1e8001e8001e87a<<<12800)
structure ME where
  b:Nat→Nat
  k:Nat→Nat
  g:Nat→Nat
  a0:Addr
  x:Nat→Int
  u:Nat→Nat
  eX:Nat
  a1:Addr
  W:Nat→Str
  tW:Nat→Nat
  eW:Nat
  T:Str
  tT:Nat
  ac6:Addr
  ac7:Addr
  o193:Obj
  R:RD
  u0:RS
  u9:RS
  oI4:Obj
  V:Nat→Str
  tV:Nat→Nat
  n4:Nat
  z4:Nat
  zv4:Value
  zn4:Nat
  cnt:Int
  tc:Nat
  oI7:Obj
  ap:Nat→Addr
  nm:Nat→Str
  tn:Nat→Nat
  pv:Nat→Int
  tp:Nat→Nat
  n7:Nat
  z7:Nat
  zv7:Value
  zn7:Nat
  aO:Addr
  ao:Nat→Addr
  tq:Nat
  nO:Nat
  aPn:Nat
  aPD:Addr
  kP:Nat
  t12:Nat
  eP13:Nat
  t14:Nat
  oI16:Obj
  ls:List Value
  n16:Nat
  z16:Nat
  zv16:Value
  zn16:Nat
  eP16:Nat
  tz16:Nat
  aWn:Nat
  aWD:Addr
  kW:Nat
  a18:Addr
  l18:List Value
  n18:Nat
  oI19:Obj
  rs:List Value
  n19:Nat
  z19:Nat
  zv19:Value
  zn19:Nat
  eW19:Nat
  a20:Addr
  l20:List Value
  n20:Nat
noncomputable abbrev ME.aP (e:ME):Addr:=e.aPn+236
noncomputable abbrev ME.aW (e:ME):Addr:=e.aWn+236
noncomputable def ME.nums (e:ME):Obj:=intsO [(e.x 0,e.u 0),(e.x 1,e.u 1),(e.x 2,e.u 2),(e.x 3,e.u 3)] e.eX
noncomputable def ME.wsV (e:ME):List Value:=[.str (e.W 0) (e.tW 0), .str (e.W 1) (e.tW 1), .str (e.W 2) (e.tW 2), .str (e.W 3) (e.tW 3), .str (e.W 4) (e.tW 4), .str (e.W 5) (e.tW 5), .str (e.W 6) (e.tW 6), .str (e.W 7) (e.tW 7)]
noncomputable def ME.words (e:ME):Obj:=listO e.wsV e.eW
noncomputable def ME.toks (e:ME):Obj:=listO [.str (e.V 0) (e.tV 0), .str (e.V 1) (e.tV 1), .str (e.V 2) (e.tV 2), .str (e.V 3) (e.tV 3), .str (e.V 4) (e.tV 4), .str (e.V 5) (e.tV 5), .str (e.V 6) (e.tV 6), .str (e.V 7) (e.tV 7), .str (e.V 8) (e.tV 8)] e.n4
noncomputable def ME.pair (e:ME) (i:Nat):Addr × Obj:=(e.ap i,tupO [.str (e.nm i) (e.tn i), .int (e.pv i) (e.tp i)] 0)
noncomputable def ME.pairs (e:ME):Obj:=listO [.ref (e.ap 0), .ref (e.ap 1), .ref (e.ap 2), .ref (e.ap 3)] e.n7
noncomputable def ordAt (i:Nat):List Nat:=perms.getD i []
noncomputable def ME.ord (e:ME) (i:Nat):Addr × Obj:=(e.ao i,ordO e.tq (ordAt i))
noncomputable def ME.ords (e:ME):Led:=[e.ord 0,e.ord 1,e.ord 2,e.ord 3,e.ord 4,e.ord 5,e.ord 6,e.ord 7,e.ord 8,e.ord 9,e.ord 10,e.ord 11,e.ord 12,e.ord 13,e.ord 14,e.ord 15,e.ord 16,e.ord 17,e.ord 18,e.ord 19,e.ord 20,e.ord 21,e.ord 22,e.ord 23]
noncomputable def ME.nmsO (e:ME) (tk:Nat):Obj:=namesO (tk+1) (tk+2) (tk+3) (tk+4) 0
noncomputable def ME.told (e:ME) (n:Nat):Obj:=intsO [(e.pv 0,e.tp 0),(e.pv 1,e.tp 1),(e.pv 2,e.tp 2),(e.pv 3,e.tp 3)] n
noncomputable def ME.e0 (e:ME) (w:Params):Eff:=⟨.ok (.ret (.ref e.a0)),[],[(e.a0,e.nums)],e.b 0,e.k 0,e.g 0⟩
noncomputable def ME.e1 (e:ME) (w:Params):Eff:=⟨.ok (.ret (.ref e.a1)),[],[(e.a1,e.words)],e.b 1,e.k 1,e.g 1⟩
noncomputable def ME.e2 (e:ME) (w:Params):Eff:=⟨.ok (.ret (.str e.T e.tT)),zipU [1,2] [tab63 e.ac6,(70,tabO 29 32 e.ac7)],[],e.b 2,e.k 2,e.g 2⟩
noncomputable def ME.e3 (e:ME) (w:Params):Eff:=⟨.ok (.ret (.ref e.R.aR)),zipU [3] [(193,e.o193)],e.R.obj w e.u0,e.b 3,e.k 3,e.g 3⟩
noncomputable def ME.e4 (e:ME) (w:Params):Eff:=⟨.ok .next,zipU [27,28,29,16,17,18,19,20,21,22,23,24,25] ([(e.b 3+1,e.oI4),(e.b 3+2,e.toks),(e.b 3+3,zO w k_turn 1 e.z4 e.zv4 e.zn4)]++e.R.obj w e.u9),[],e.b 4,e.k 4,e.g 4⟩
noncomputable def ME.e5 (e:ME) (w:Params):Eff:=⟨.ok (.ret (.bool false)),[],[],e.b 5,e.k 5,e.g 5⟩
noncomputable def ME.e6 (e:ME) (w:Params):Eff:=⟨.ok (.ret (.int e.cnt e.tc)),[],[],e.b 6,e.k 6,e.g 6⟩
noncomputable def ME.e7 (e:ME) (w:Params):Eff:=⟨.ok .next,zipU [33,34,35] [(e.b 6+1,e.oI7),(e.b 6+2,e.pairs),(e.b 6+3,zO w k_place 1 e.z7 e.zv7 e.zn7)],[e.pair 0,e.pair 1,e.pair 2,e.pair 3],e.b 7,e.k 7,e.g 7⟩
noncomputable def ME.e8 (e:ME) (w:Params):Eff:=⟨.ok (.ret (.bool false)),[],[],e.b 8,e.k 8,e.g 8⟩
noncomputable def ME.e9 (e:ME) (w:Params):Eff:=⟨.ok (.ret (.bool false)),[],[],e.b 9,e.k 9,e.g 9⟩
noncomputable def ME.e10 (e:ME) (w:Params):Eff:=⟨.ok (.ret (.ref e.aO)),[],(e.aO,listO (orefs e.ao) e.nO) :: e.ords,e.b 10,e.k 10,e.g 10⟩
noncomputable def ME.e11 (e:ME) (w:Params):Eff:=⟨.ok (.ret (.ref e.aP)),[],[(e.aP,accO e.aPD [] 0),(e.aPD,sizeO w 9 e.kP (e.k 10) 1)],e.b 11,e.k 11,e.g 11⟩
noncomputable def ME.e12 (e:ME) (w:Params):Eff:=⟨.ok (.ret (.int 1 e.t12)),[],[],e.b 12,e.k 12,e.g 12⟩
noncomputable def ME.e13 (e:ME) (w:Params):Eff:=⟨.ok (.ret (.ref (e.b 11+1))),zipU [114] [(e.aP,accO e.aPD [] e.eP13)],[],e.b 13,e.k 13,e.g 13⟩
noncomputable def ME.e14 (e:ME) (w:Params):Eff:=⟨.ok (.ret (.int 0 e.t14)),[],[],e.b 14,e.k 14,e.g 14⟩
noncomputable def ME.e15 (e:ME) (w:Params):Eff:=⟨.ok (.ret (.bool false)),[],[],e.b 15,e.k 15,e.g 15⟩
noncomputable def ME.e16 (e:ME) (w:Params):Eff:=⟨.ok .next,zipU [122,123,124,114,115] [(e.b 15+1,e.oI16),(e.b 15+2,listO e.ls e.n16),(e.b 15+3,zO w k_turn 1 e.z16 e.zv16 e.zn16),(e.aP,accO e.aPD [] e.eP16),(e.aPD,sizeO w 0 e.kP e.tz16 1)],[],e.b 16,e.k 16,e.g 16⟩
noncomputable def ME.e17 (e:ME) (w:Params):Eff:=⟨.ok (.ret (.ref e.aW)),[],[(e.aW,accO e.aWD [] 0),(e.aWD,sizeO w 0 e.kW 210 1)],e.b 17,e.k 17,e.g 17⟩
noncomputable def ME.e18 (e:ME) (w:Params):Eff:=⟨.ok (.ret (.ref e.a18)),[],[(e.a18,listO e.l18 e.n18)],e.b 18,e.k 18,e.g 18⟩
noncomputable def ME.e19 (e:ME) (w:Params):Eff:=⟨.ok .next,zipU [128,129,130,125] [(e.b 18,e.oI19),(e.b 18+1,listO e.rs e.n19),(e.b 18+2,zO w k_order 1 e.z19 e.zv19 e.zn19),(e.aW,accO e.aWD [] e.eW19)],[],e.b 19,e.k 19,e.g 19⟩
noncomputable def ME.e20 (e:ME) (w:Params):Eff:=⟨.ok (.ret (.ref e.a20)),[],[(e.a20,listO e.l20 e.n20)],e.b 20,e.k 20,e.g 20⟩
noncomputable def ME.e21 (e:ME) (w:Params):Eff:=⟨.ok (.ret (.bool true)),[],[],e.b 21,e.k 21,e.g 21⟩
noncomputable def mo0 (w:World) (aS:Addr) (xs:List Value) (eS:Nat) (p4:Pos) (c:GX):Out:=
  (sg w [(.builtin "claim.caller" ⟨[],[]⟩,p4)] [0,1,2,3] {exs:=[[0],[13,14],[15,14,1,2],[3],[27,28,29,8,16,17,18,19,20,21,22,23,24,25],[28,31],[],[33,34,35,7,15],[34,42,36,37,38,39,44,45,46,47],[51,68],[],[],[114,115],[114,115],[114,115],[118,120,117,119],[122,123,124,10,5,9,11,89,114,115,90,91,92,93,94,95,96,97,98,99,100,101,102,103,104,105,106,107,108,109,110,111,112,113,13,73,1],[],[123],[128,129,130,12,5,9,89,90,91,92,93,94,95,96,97,98,99,100,101,102,103,104,105,106,107,108,109,110,111,112,113,13,73,125,126],[129],[127,131]]} [(aS,listO xs eS),tabE 63,tabE 70,tabE 193] c.g c.base c.tk c.gb (.call (.ref 235) ⟨[.ref aS],[]⟩) c.p).run 2500 N_main
noncomputable abbrev mo1 (w:World) (aS:Addr) (xs:List Value) (eS:Nat) (p4:Pos) (c:GX) (e:ME):Out:=(mo0 w aS xs eS p4 c).rest (e.e0 w.params)
noncomputable abbrev mo2 (w:World) (aS:Addr) (xs:List Value) (eS:Nat) (p4:Pos) (c:GX) (e:ME):Out:=(mo1 w aS xs eS p4 c e).rest (e.e1 w.params)
noncomputable abbrev mo3 (w:World) (aS:Addr) (xs:List Value) (eS:Nat) (p4:Pos) (c:GX) (e:ME):Out:=(mo2 w aS xs eS p4 c e).rest (e.e2 w.params)
noncomputable abbrev mo4 (w:World) (aS:Addr) (xs:List Value) (eS:Nat) (p4:Pos) (c:GX) (e:ME):Out:=(mo3 w aS xs eS p4 c e).rest (e.e3 w.params)
noncomputable abbrev mo5 (w:World) (aS:Addr) (xs:List Value) (eS:Nat) (p4:Pos) (c:GX) (e:ME):Out:=(mo4 w aS xs eS p4 c e).rest (e.e4 w.params)
noncomputable abbrev mo6 (w:World) (aS:Addr) (xs:List Value) (eS:Nat) (p4:Pos) (c:GX) (e:ME):Out:=(mo5 w aS xs eS p4 c e).rest (e.e5 w.params)
noncomputable abbrev mo7 (w:World) (aS:Addr) (xs:List Value) (eS:Nat) (p4:Pos) (c:GX) (e:ME):Out:=(mo6 w aS xs eS p4 c e).rest (e.e6 w.params)
noncomputable abbrev mo8 (w:World) (aS:Addr) (xs:List Value) (eS:Nat) (p4:Pos) (c:GX) (e:ME):Out:=(mo7 w aS xs eS p4 c e).rest (e.e7 w.params)
noncomputable abbrev mo9 (w:World) (aS:Addr) (xs:List Value) (eS:Nat) (p4:Pos) (c:GX) (e:ME):Out:=(mo8 w aS xs eS p4 c e).rest (e.e8 w.params)
noncomputable abbrev mo10 (w:World) (aS:Addr) (xs:List Value) (eS:Nat) (p4:Pos) (c:GX) (e:ME):Out:=(mo9 w aS xs eS p4 c e).rest (e.e9 w.params)
noncomputable abbrev mo11 (w:World) (aS:Addr) (xs:List Value) (eS:Nat) (p4:Pos) (c:GX) (e:ME):Out:=(mo10 w aS xs eS p4 c e).rest (e.e10 w.params)
noncomputable abbrev mo12 (w:World) (aS:Addr) (xs:List Value) (eS:Nat) (p4:Pos) (c:GX) (e:ME):Out:=(mo11 w aS xs eS p4 c e).rest (e.e11 w.params)
noncomputable abbrev mo13 (w:World) (aS:Addr) (xs:List Value) (eS:Nat) (p4:Pos) (c:GX) (e:ME):Out:=(mo12 w aS xs eS p4 c e).rest (e.e12 w.params)
noncomputable abbrev mo14 (w:World) (aS:Addr) (xs:List Value) (eS:Nat) (p4:Pos) (c:GX) (e:ME):Out:=(mo13 w aS xs eS p4 c e).rest (e.e13 w.params)
noncomputable abbrev mo15 (w:World) (aS:Addr) (xs:List Value) (eS:Nat) (p4:Pos) (c:GX) (e:ME):Out:=(mo14 w aS xs eS p4 c e).rest (e.e14 w.params)
noncomputable abbrev mo16 (w:World) (aS:Addr) (xs:List Value) (eS:Nat) (p4:Pos) (c:GX) (e:ME):Out:=(mo15 w aS xs eS p4 c e).rest (e.e15 w.params)
noncomputable abbrev mo17 (w:World) (aS:Addr) (xs:List Value) (eS:Nat) (p4:Pos) (c:GX) (e:ME):Out:=(mo16 w aS xs eS p4 c e).rest (e.e16 w.params)
noncomputable abbrev mo18 (w:World) (aS:Addr) (xs:List Value) (eS:Nat) (p4:Pos) (c:GX) (e:ME):Out:=(mo17 w aS xs eS p4 c e).rest (e.e17 w.params)
noncomputable abbrev mo19 (w:World) (aS:Addr) (xs:List Value) (eS:Nat) (p4:Pos) (c:GX) (e:ME):Out:=(mo18 w aS xs eS p4 c e).rest (e.e18 w.params)
noncomputable abbrev mo20 (w:World) (aS:Addr) (xs:List Value) (eS:Nat) (p4:Pos) (c:GX) (e:ME):Out:=(mo19 w aS xs eS p4 c e).rest (e.e19 w.params)
noncomputable abbrev mo21 (w:World) (aS:Addr) (xs:List Value) (eS:Nat) (p4:Pos) (c:GX) (e:ME):Out:=(mo20 w aS xs eS p4 c e).rest (e.e20 w.params)
noncomputable abbrev mo22 (w:World) (aS:Addr) (xs:List Value) (eS:Nat) (p4:Pos) (c:GX) (e:ME):Out:=(mo21 w aS xs eS p4 c e).rest (e.e21 w.params)
noncomputable def mStk (base:Nat) (p p4:Pos):Stk:=outLaw lawD.b (lawEnv base) p p4
theorem main0 (w:World) (aS:Addr) (xs:List Value) (eS:Nat) (p4:Pos) (c:GX) (e:ME) :
    isCut (mo0 w aS xs eS p4 c) (.call (.ref 203) ⟨[.ref aS],[]⟩) ([(aS,listO xs eS)].map some) []∧(mo0 w aS xs eS p4 c).row.stk=mStk c.base (mo0 w aS xs eS p4 c).sp2 p4:=by
  refine ⟨?_, ?_⟩ <;> kernel_rfl
theorem main1 (w:World) (aS:Addr) (xs:List Value) (eS:Nat) (p4:Pos) (c:GX) (e:ME) :
    isCut (mo1 w aS xs eS p4 c e) (.call (.ref 210) ⟨[.ref (c.base+9), .ref e.a0],[]⟩) ([(c.base+9,e.nmsO c.tk),(e.a0,e.nums)].map some) []∧(mo1 w aS xs eS p4 c e).row.stk=mStk c.base (mo1 w aS xs eS p4 c e).sp2 p4:=by
  refine ⟨?_, ?_⟩ <;> kernel_rfl
theorem main2 (w:World) (aS:Addr) (xs:List Value) (eS:Nat) (p4:Pos) (c:GX) (e:ME) :
    isCut (mo2 w aS xs eS p4 c e) (.call (.ref 215) ⟨[.ref e.a1, .ref e.a0],[]⟩) ([(e.a1,e.words),(e.a0,e.nums),tabE 63,tabE 70].map some) []∧(mo2 w aS xs eS p4 c e).row.stk=mStk c.base (mo2 w aS xs eS p4 c e).sp2 p4:=by
  refine ⟨?_, ?_⟩ <;> kernel_rfl
theorem main3 (w:World) (aS:Addr) (xs:List Value) (eS:Nat) (p4:Pos) (c:GX) (e:ME) :
    isCut (mo3 w aS xs eS p4 c e) (.call (.ref 198) ⟨[.str e.T e.tT],[]⟩) ([tabE 193].map some) []∧(mo3 w aS xs eS p4 c e).row.stk=mStk c.base (mo3 w aS xs eS p4 c e).sp2 p4:=by
  refine ⟨?_, ?_⟩ <;> kernel_rfl
theorem main4 (w:World) (aS:Addr) (xs:List Value) (eS:Nat) (p4:Pos) (c:GX) (e:ME) :
    isCut (mo4 w aS xs eS p4 c e) (cStart tokC (e.b 3+1) (e.b 3+2) (e.b 3+3) c.base (tokCells c.base)) (((CC.ledT ⟨e.b 3+1,e.b 3+2,e.b 3+3,c.base⟩ e.R w.params 0 ⟨[],0,0, .none,0⟩ e.u0 0 9)).map some) []∧(mo4 w aS xs eS p4 c e).row.stk=mStk c.base (mo4 w aS xs eS p4 c e).sp2 p4:=by
  refine ⟨?_, ?_⟩ <;> kernel_rfl
theorem main5 (w:World) (aS:Addr) (xs:List Value) (eS:Nat) (p4:Pos) (c:GX) (e:ME) :
    (∃ t,isCut (mo5 w aS xs eS p4 c e) (.call (.builtin "list.__ne__") ⟨[.ref (e.b 3+2), .ref (e.b 4+1)],[]⟩) ([(e.b 3+2,e.toks),(e.b 4+1,listO (e.wsV++[.str (S []) t]) 0)].map some) [])∧(mo5 w aS xs eS p4 c e).row.stk=mStk c.base (mo5 w aS xs eS p4 c e).sp2 p4:=by
  refine ⟨⟨(mo5 w aS xs eS p4 c e).dt 1 8, ?_⟩, ?_⟩ <;> kernel_rfl
theorem main6 (w:World) (aS:Addr) (xs:List Value) (eS:Nat) (p4:Pos) (c:GX) (e:ME) :
    (∃ t,isCut (mo6 w aS xs eS p4 c e) (.call (.builtin "str.count") ⟨[.str e.T e.tT, .str (S [10]) t],[]⟩) (([]:Led).map some) [])∧(mo6 w aS xs eS p4 c e).row.stk=mStk c.base (mo6 w aS xs eS p4 c e).sp2 p4:=by
  refine ⟨⟨Value.tok (Code.argV (mo6 w aS xs eS p4 c e).row.c 1), ?_⟩, ?_⟩ <;> kernel_rfl
theorem main7 (w:World) (aS:Addr) (xs:List Value) (eS:Nat) (p4:Pos) (c:GX) (e:ME) :
    isCut (mo7 w aS xs eS p4 c e) (cStart pairC (e.b 6+1) (e.b 6+2) (e.b 6+3) c.base (pairCells c.base)) (((CC.ledP ⟨e.b 6+1,e.b 6+2,e.b 6+3,c.base⟩ w.params 0 ⟨[],0,0, .none,0⟩ e.a1 e.wsV e.eW 0 4)).map some) [(e.u9.ln != 1+e.cnt)=false]∧(mo7 w aS xs eS p4 c e).row.stk=mStk c.base (mo7 w aS xs eS p4 c e).sp2 p4:=by
  refine ⟨?_, ?_⟩ <;> kernel_rfl
theorem main8 (w:World) (aS:Addr) (xs:List Value) (eS:Nat) (p4:Pos) (c:GX) (e:ME) :
    isCut (mo8 w aS xs eS p4 c e) (.call (.builtin "list.__ne__") ⟨[.ref (e.b 6+2), .ref (e.b 7+2)],[]⟩) ([(e.b 6+2,e.pairs),(e.b 7+2,listO [.ref (e.b 7+4), .ref (e.b 7+5), .ref (e.b 7+6), .ref (e.b 7+7)] 4),e.pair 0,e.pair 1,e.pair 2,e.pair 3,(e.b 7+4,tupO [.str (S [34]) (c.tk+1), .int (e.x 0) (e.u 0)] 0),(e.b 7+5,tupO [.str (S [92]) (c.tk+2), .int (e.x 1) (e.u 1)] 0),(e.b 7+6,tupO [.str (S [32]) (c.tk+3), .int (e.x 2) (e.u 2)] 0),(e.b 7+7,tupO [.str (S [10]) (c.tk+4), .int (e.x 3) (e.u 3)] 0)].map some) []∧(mo8 w aS xs eS p4 c e).row.stk=mStk c.base (mo8 w aS xs eS p4 c e).sp2 p4:=by
  refine ⟨?_, ?_⟩ <;> kernel_rfl
theorem main9 (w:World) (aS:Addr) (xs:List Value) (eS:Nat) (p4:Pos) (c:GX) (e:ME) :
    isCut (mo9 w aS xs eS p4 c e) (.call (.builtin "list.__ne__") ⟨[.ref (e.b 8+1), .ref (e.b 8+18)],[]⟩) ([(e.b 8+1,listO [.str (Str.ofString (toString (e.pv 0))) ((mo9 w aS xs eS p4 c e).dt 0 0), .str (Str.ofString (toString (e.pv 1))) ((mo9 w aS xs eS p4 c e).dt 0 1), .str (Str.ofString (toString (e.pv 2))) ((mo9 w aS xs eS p4 c e).dt 0 2), .str (Str.ofString (toString (e.pv 3))) ((mo9 w aS xs eS p4 c e).dt 0 3)] 4),(e.b 8+18,listO [.str (Str.ofString (toString (e.x 0))) ((mo9 w aS xs eS p4 c e).dt 1 0), .str (Str.ofString (toString (e.x 1))) ((mo9 w aS xs eS p4 c e).dt 1 1), .str (Str.ofString (toString (e.x 2))) ((mo9 w aS xs eS p4 c e).dt 1 2), .str (Str.ofString (toString (e.x 3))) ((mo9 w aS xs eS p4 c e).dt 1 3)] 4)].map some) [(e.x 3).natAbs≤1000,(e.x 2).natAbs≤1000,(e.x 1).natAbs≤1000,(e.x 0).natAbs≤1000,(e.pv 3).natAbs≤1000,(e.pv 2).natAbs≤1000,(e.pv 1).natAbs≤1000,(e.pv 0).natAbs≤1000]∧(mo9 w aS xs eS p4 c e).row.stk=mStk c.base (mo9 w aS xs eS p4 c e).sp2 p4:=by
  refine ⟨?_, ?_⟩ <;> kernel_rfl
theorem main10 (w:World) (aS:Addr) (xs:List Value) (eS:Nat) (p4:Pos) (c:GX) (e:ME) :
    isCut (mo10 w aS xs eS p4 c e) (.call (.ref 220) ⟨[],[]⟩) (([]:Led).map some) []∧(mo10 w aS xs eS p4 c e).row.stk=mStk c.base (mo10 w aS xs eS p4 c e).sp2 p4:=by
  refine ⟨?_, ?_⟩ <;> kernel_rfl
theorem main11 (w:World) (aS:Addr) (xs:List Value) (eS:Nat) (p4:Pos) (c:GX) (e:ME) :
    isCut (mo11 w aS xs eS p4 c e) (.call (.ref 101) ⟨[.int 9 (e.k 10)],[]⟩) (([]:Led).map some) []∧(mo11 w aS xs eS p4 c e).row.stk=mStk c.base (mo11 w aS xs eS p4 c e).sp2 p4:=by
  refine ⟨?_, ?_⟩ <;> kernel_rfl
theorem main12 (w:World) (aS:Addr) (xs:List Value) (eS:Nat) (p4:Pos) (c:GX) (e:ME) :
    isCut (mo12 w aS xs eS p4 c e) (.call (.ref 98) ⟨[.ref e.aP],[]⟩) ([(e.aP,accO e.aPD [.ref (e.b 11+1)] ((mo12 w aS xs eS p4 c e).ep 0)),(e.aPD,sizeO w.params 9 e.kP (e.k 10) 1)].map some) []∧(mo12 w aS xs eS p4 c e).row.stk=mStk c.base (mo12 w aS xs eS p4 c e).sp2 p4:=by
  refine ⟨?_, ?_⟩ <;> kernel_rfl
theorem main13 (w:World) (aS:Addr) (xs:List Value) (eS:Nat) (p4:Pos) (c:GX) (e:ME) :
    isCut (mo13 w aS xs eS p4 c e) (.call (.ref 61) ⟨[.ref e.aP],[]⟩) ([(e.aP,accO e.aPD [.ref (e.b 11+1)] ((mo13 w aS xs eS p4 c e).ep 0)),(e.aPD,sizeO w.params 9 e.kP (e.k 10) 1)].map some) []∧(mo13 w aS xs eS p4 c e).row.stk=mStk c.base (mo13 w aS xs eS p4 c e).sp2 p4:=by
  refine ⟨?_, ?_⟩ <;> kernel_rfl
theorem main14 (w:World) (aS:Addr) (xs:List Value) (eS:Nat) (p4:Pos) (c:GX) (e:ME) :
    isCut (mo14 w aS xs eS p4 c e) (.call (.ref 98) ⟨[.ref e.aP],[]⟩) ([(e.aP,accO e.aPD [] e.eP13),(e.aPD,sizeO w.params 9 e.kP (e.k 10) 1)].map some) []∧(mo14 w aS xs eS p4 c e).row.stk=mStk c.base (mo14 w aS xs eS p4 c e).sp2 p4:=by
  refine ⟨?_, ?_⟩ <;> kernel_rfl
theorem main15 (w:World) (aS:Addr) (xs:List Value) (eS:Nat) (p4:Pos) (c:GX) (e:ME) :
    isCut (mo15 w aS xs eS p4 c e) (.call (.builtin "list.__ne__") ⟨[.ref (e.b 14), .ref (e.b 14+2)],[]⟩) ([(e.b 14,listO [.int 1 e.t12, .ref (e.b 11+1), .int 0 e.t14] 0),(e.b 14+2,listO [.int 1 ((mo15 w aS xs eS p4 c e).dt 1 0), .ref (e.b 14+1), .int 0 ((mo15 w aS xs eS p4 c e).dt 1 2)] 0),(e.b 11+1,tupO [.str (S []) ((mo15 w aS xs eS p4 c e).dt 2 0), .str (S []) ((mo15 w aS xs eS p4 c e).dt 2 1)] 0),(e.b 14+1,tupO [.str (S []) ((mo15 w aS xs eS p4 c e).dt 3 0), .str (S []) ((mo15 w aS xs eS p4 c e).dt 3 1)] 0)].map some) []∧(mo15 w aS xs eS p4 c e).row.stk=mStk c.base (mo15 w aS xs eS p4 c e).sp2 p4:=by
  refine ⟨?_, ?_⟩ <;> kernel_rfl
theorem main16 (w:World) (aS:Addr) (xs:List Value) (eS:Nat) (p4:Pos) (c:GX) (e:ME) :
    isCut (mo16 w aS xs eS p4 c e) (cStart leftC (e.b 15+1) (e.b 15+2) (e.b 15+3) c.base (leftCells c.base)) (([(e.b 15+1,ritO 0 24),(e.b 15+2,listO [] 0),(e.b 15+3,zO w.params k_turn 0 0 .none 0),(c.base+6,cellO (.ref e.aO)),(c.base+1,cellO (.ref (c.base+9))),(c.base+5,cellO (.ref (e.b 9+1))),(c.base+7,cellO (.ref e.aP)),(e.aO,listO (orefs e.ao) e.nO),(e.aP,accO e.aPD [] e.eP13),(e.aPD,sizeO w.params 9 e.kP (e.k 10) 1)]++(e.ords++[(c.base+9,e.nmsO c.tk),(e.b 9+1,e.told 4),tab63 e.ac6])).map some) []∧(mo16 w aS xs eS p4 c e).row.stk=mStk c.base (mo16 w aS xs eS p4 c e).sp2 p4:=by
  refine ⟨?_, ?_⟩ <;> kernel_rfl
theorem main17 (w:World) (aS:Addr) (xs:List Value) (eS:Nat) (p4:Pos) (c:GX) (e:ME) :
    isCut (mo17 w aS xs eS p4 c e) (.call (.ref 101) ⟨[],[]⟩) (([]:Led).map some) []∧(mo17 w aS xs eS p4 c e).row.stk=mStk c.base (mo17 w aS xs eS p4 c e).sp2 p4:=by
  refine ⟨?_, ?_⟩ <;> kernel_rfl
theorem main18 (w:World) (aS:Addr) (xs:List Value) (eS:Nat) (p4:Pos) (c:GX) (e:ME) :
    isCut (mo18 w aS xs eS p4 c e) (.call (.builtin "sorted") ⟨[.ref (e.b 15+2)],[]⟩) ([(e.b 15+2,listO e.ls e.n16)].map some) []∧(mo18 w aS xs eS p4 c e).row.stk=mStk c.base (mo18 w aS xs eS p4 c e).sp2 p4:=by
  refine ⟨?_, ?_⟩ <;> kernel_rfl
theorem main19 (w:World) (aS:Addr) (xs:List Value) (eS:Nat) (p4:Pos) (c:GX) (e:ME) :
    isCut (mo19 w aS xs eS p4 c e) (cStart ringC (e.b 18) (e.b 18+1) (e.b 18+2) c.base (ringCells c.base)) (([(e.b 18,litO e.aO 0),(e.b 18+1,listO [] 0),(e.b 18+2,zO w.params k_order 0 0 .none 0),(c.base+8,cellO (.ref e.aW)),(c.base+1,cellO (.ref (c.base+9))),(c.base+5,cellO (.ref (e.b 9+1))),(e.aO,listO (orefs e.ao) e.nO)]++(e.ords++[(c.base+9,e.nmsO c.tk),(e.b 9+1,e.told 4),(e.aW,accO e.aWD [] 0),(e.aWD,sizeO w.params 0 e.kW 210 1)])).map some) []∧(mo19 w aS xs eS p4 c e).row.stk=mStk c.base (mo19 w aS xs eS p4 c e).sp2 p4:=by
  refine ⟨?_, ?_⟩ <;> kernel_rfl
theorem main20 (w:World) (aS:Addr) (xs:List Value) (eS:Nat) (p4:Pos) (c:GX) (e:ME) :
    isCut (mo20 w aS xs eS p4 c e) (.call (.builtin "sorted") ⟨[.ref (e.b 18+1)],[]⟩) ([(e.b 18+1,listO e.rs e.n19)].map some) []∧(mo20 w aS xs eS p4 c e).row.stk=mStk c.base (mo20 w aS xs eS p4 c e).sp2 p4:=by
  refine ⟨?_, ?_⟩ <;> kernel_rfl
theorem main21 (w:World) (aS:Addr) (xs:List Value) (eS:Nat) (p4:Pos) (c:GX) (e:ME) :
    isCut (mo21 w aS xs eS p4 c e) (.call (.builtin "list.__eq__") ⟨[.ref e.a18, .ref e.a20],[]⟩) ([(e.a18,listO e.l18 e.n18),(e.a20,listO e.l20 e.n20)].map some) []∧(mo21 w aS xs eS p4 c e).row.stk=mStk c.base (mo21 w aS xs eS p4 c e).sp2 p4:=by
  refine ⟨?_, ?_⟩ <;> kernel_rfl
theorem main22 (w:World) (aS:Addr) (xs:List Value) (eS:Nat) (p4:Pos) (c:GX) (e:ME) :
    isRet (mo22 w aS xs eS p4 c e) (.ok (.ret (.bool true))) ([(aS,listO xs eS),tab63 e.ac6,(70,tabO 29 32 e.ac7),(193,e.o193)].map some) []:=by
  kernel_rfl
end Mine
end
section
open PySem PySem.W PySem.W.X PySem.Calls PyProof.Rows PySem.SeqAt
namespace Mine
noncomputable def N_lexn:Nat:=(0x10040100400008020000000000004010040100004010000000000c03<<<20+zz2<<<290+0x800054150540005014050140001400014<<<330+0x1700017<<<800+0x16058160000005c000000005c0005c0000017000000000005c180581605800000170000000017000170000005c00000000001706016058160000005c000000005c0005c0000017000000000005c1806016058160000005c000000005c0005c0000017000000000005c1800000000180600006018<<<910)
noncomputable def Out.fd (o:Out) (i:Nat):FuncData:=match (o.ob i).data with | .func f=>f | _=>default
noncomputable def Out.fv (o:Out) (i k:Nat):Value:=match (o.ob i).data with | .fields vs=>vs.getD k .none | _ => .none
noncomputable def lexNew (w:World) (T:Str) (tT:Nat) (x:LX) (c:GX):Out:=
  (sg w x.out [0,22,21,24,19,20,12,11,3,2,4] {} [(193,⟨.none,none, .fields #[], #[]⟩)] c.g c.base c.tk c.gb (.call (.ref 198) ⟨[.str T tT],[]⟩) c.p).run 500 N_lexn
noncomputable def newRD (w:World) (T:Str) (tT:Nat) (x:LX) (c:GX):RD:=
  {aC:=0,aF:=0,aM:=0,aR:=c.base+21,aD:=c.base+20,aP:=c.base+23,aS:=c.base+18,aE:=c.base+19,aL:=c.base+11,aK:=c.base+10,aA:=c.base+2,aX:=c.base+1,aB:=c.base+3,x:=T,tx:=tT,
    f:=fun i=>match i with | 3=>(lexNew w T tT x c).kt 2 0 | 4=>(lexNew w T tT x c).kt 2 1 | 5=>(lexNew w T tT x c).kt 2 2 | 6=>(lexNew w T tT x c).dt 2 2 | 7=>(lexNew w T tT x c).kt 2 3 | 8=>(lexNew w T tT x c).ep 2 | 9=>(lexNew w T tT x c).ep 3 | 10=>(lexNew w T tT x c).kt 5 0 | 11=>(lexNew w T tT x c).ep 5 | _=>(lexNew w T tT x c).ep 10,
    fd:=(lexNew w T tT x c).fd 4,fr:=(lexNew w T tT x c).fd 6,cv:=fun i=>(lexNew w T tT x c).fv 7 i}
noncomputable def newRS (w:World) (T:Str) (tT:Nat) (x:LX) (c:GX):RS:={ln:=1,tl:=(lexNew w T tT x c).dt 2 0,i:=0,ti:=(lexNew w T tT x c).dt 10 0,tok:=S [],tt:=0,ch:=S [],tc:=0,eF:=0,g:=0}
theorem lex_new (w:World) (T:Str) (tT:Nat) (x:LX) (c:GX) :
    isRet (lexNew w T tT x c) (.ok (.ret (.ref (c.base+21)))) (((193,(lexNew w T tT x c).ob 0) :: (newRD w T tT x c).obj w.params (newRS w T tT x c)).map some) []:=by
  kernel_rfl
end Mine
end
section
open PySem PySem.W PySem.W.X PySem.Calls PyProof.Rows PySem.SeqAt
namespace Mine
noncomputable def nlc (l:List Nat):Int:=(l.count 10:Int)
theorem nlc_app (l m:List Nat):nlc (l++m)=nlc l+nlc m:=by simp [nlc,List.count_append]
theorem nlc_one {c:Nat} (h:c≠10):nlc [c]=0:=by simp [nlc,h]
noncomputable def hidQ (c:Nat):Bool:=c == 34 || c == 92
noncomputable def hidU (c:Nat):Bool:=c == 34 || c == 92 || c == 32 || c == 9 || c == 10
noncomputable def encC (hid:Nat→Bool) (c:Nat):List Nat:=if hid c then [92,c] else [c]
noncomputable def encL (hid:Nat→Bool) (l:List Nat):List Nat:=l.flatMap (encC hid)
theorem eqS_ch (d k:Nat):eqS (ch1 d) (S [k])=(d+1 == k):=by
  show ([d+1] == [k])=_
  simp
theorem eqS_nil (d:Nat):eqS (S []) (ch1 d)=false:=rfl
theorem inWs_dec : ∀ d<127,inWs d=(d+1 == 10 || d+1 == 9 || d+1 == 13 || d+1 == 32):=by
  decide +kernel
theorem cIs_ok {d k:Nat} (h:d+1≠k):AllP (cIs d k):=AllP.cons (by rw [eqS_ch]; simpa using h) .nil
theorem cNl_ok {d:Nat} (h:d+1≠10):AllP (cNl d):=AllP.cons (by rw [eqS_ch]; simpa using h) .nil
theorem cSg_ok {d:Nat} (h:d+1≠10):AllP (cSg d):=AllP.cons rfl (cNl_ok h)
theorem cWs_ok {d:Nat} {b:Bool} (hd:d<127) (h:(d+1 == 10 || d+1 == 9 || d+1 == 13 || d+1 == 32)=b):AllP (cWs d b):=AllP.cons (by rw [inWs_dec d hd,h]) .nil
theorem rd_ok {P:RD} {i:Int} {n:Nat} {y:List Nat} (a b:Nat) (hx:P.x.cps.toList.drop n=y) (hi:i=(n:Int)+1):AllP (cRd P i a b ⟨(y.take 1).toArray⟩):=by
  subst hi
  have e:(slc P.x (some ((n:Int)+1 - 1,a)) (some ((n:Int)+1,b))).cps.toList=y.take 1:=by
    rw [slc_list P.x _ _ n (n+1) (.inr ⟨a,by rw [show (n:Int)+1 - 1=n by lia]⟩) (.inr ⟨b,by rw [show ((n+1:Nat):Int)=(n:Int)+1 by lia]⟩) (Nat.le_succ _),List.drop_take,hx,show n+1 - n=1 by lia]
  have e2:slc P.x (some ((n:Int)+1 - 1,a)) (some ((n:Int)+1,b))=⟨(y.take 1).toArray⟩:=by
    generalize slc P.x (some ((n:Int)+1 - 1,a)) (some ((n:Int)+1,b))=z at e
    obtain ⟨cps⟩:=z
    congr 1
    exact Array.toList_inj.mp e
  refine AllP.cons e2 (AllP.cons ?_ .nil)
  rw [e2]
  show (y.take 1).toArray.size≤_
  simp
  lia
theorem rd1 {P:RD} {i:Int} {n k:Nat} {r:List Nat} (a b:Nat) (hx:P.x.cps.toList.drop n=k :: r) (hi:i=(n:Int)+1):AllP (cRd P i a b ⟨#[k]⟩):=rd_ok a b hx hi
theorem rd0 {P:RD} {i:Int} {n:Nat} (a b:Nat) (hx:P.x.cps.toList.drop n=[]) (hi:i=(n:Int)+1):AllP (cRd P i a b (S [])):=rd_ok a b hx hi
theorem drop_step {X:List Nat} {n k:Nat} {r:List Nat} (h:X.drop n=k :: r):X.drop (n+1)=r:=by
  rw [← List.drop_drop,h]; rfl
theorem cAdd1 {x:Str} {k:Nat} (h:x.length≤1000):AllP (cAdd x ⟨#[k]⟩):=AllP.cons (by show x.length+1≤_; lia) .nil
structure Told (P:RD) (w:World) (s:Shared) (sh:Nat) (t:RS) (s' : Shared) (t' : RS) (fin:Bool) (u cs:List Nat):Prop where
  kept:Kept s s' (P.led w.params sh t).as
  at' : AllAt s' (P.led w.params 1 t' fin)
  i:t'.i=t.i+(u.length:Int)
  ln:t'.ln=t.ln+nlc u
  tok:t'.tok.cps.toList=t.tok.cps.toList++cs
theorem Told.trans {P:RD} {w:World} {s s1 s2:Shared} {sh:Nat} {t t1 t2:RS} {fin:Bool} {u v cs ds:List Nat} (h:Told P w s sh t s1 t1 false u cs) (k:Told P w s1 1 t1 s2 t2 fin v ds):Told P w s sh t s2 t2 fin (u++v) (cs++ds):=
  ⟨h.kept.trans k.kept (fun b hb => .inl hb),k.at',by rw [k.i,h.i,List.length_append]; lia,by rw [k.ln,h.ln,nlc_app]; lia,by rw [k.tok,h.tok,List.append_assoc]⟩
theorem Told.ready {P:RD} {w:World} {s s1:Shared} {sh:Nat} {t t1:RS} {u cs:List Nat} (h:Told P w s sh t s1 t1 false u cs) (R:Ready w s (P.led w.params sh t)):Ready w s1 (P.led w.params 1 t1):=R.next h.kept h.at' rfl
theorem str_len (x:Str):x.length=x.cps.toList.length:=by simp [Str.length]
noncomputable abbrev gxO (s:Shared) (L:Led) (p:Pos):GX:=⟨ghO s L,s.heap.objs.size,s.toks,s.gens.size,p⟩
theorem tokApp (x:Str) (k:Nat):(x++(⟨#[k]⟩:Str)).cps.toList=x.cps.toList++[k]:=by
  show (x.cps ++ #[k]).toList=_
  simp
theorem q_turn {P:RD} {w:World} {x:QX} {O:List Frame} (hO:OutIs O x.out) {t:RS} {s:Shared} {p:Pos} {n c:Nat} {r:List Nat} (R:Ready w s (P.led w.params 1 t)) (hi:t.i=(n:Int))
    (hx:P.x.cps.toList.drop n=encC hidQ c++r) (hc:0<c∧c<128) (hl:t.tok.length≤1000) :
    ∃ s' p' t',Comes (model pw w) s ⟨(model pw w).den (qLoop P.aC P.aF),qLoop P.aC P.aF,p,O⟩ s' ⟨(model pw w).den (qLoop P.aC P.aF),qLoop P.aC P.aF,p',O⟩∧Told P w s 1 t s' t' false (encC hidQ c) [c]:=by
  obtain ⟨d,rfl⟩ : ∃ d,c=d+1:=⟨c - 1,by lia⟩
  unfold encC at hx ⊢
  cases hh:hidQ (d+1) with
  | true =>
    rw [hh,if_pos rfl] at hx
    rw [if_pos rfl]
    have h10:d+1≠10:=by
      intro q; rw [q] at hh; exact absurd hh (by decide)
    obtain ⟨s',p',hC,hK,hA⟩:=seg_again (ids:=lexIds) (r:={exs:=[lexIds],ss:=[S [92],ch1 d]}) (N:=N_qe) (fuel:=800) (p:=p) R hO (by decide) no_alts (lx_qe P w t x (gxO s (P.led w.params 1 t) p) d)
      (AllP.app (cAdd1 hl) (AllP.app (cNl_ok h10) (AllP.app (rd1 _ _ (drop_step hx) (by rw [hi]; lia)) (rd1 _ _ hx (by rw [hi])))))
    exact ⟨s',p',_,hC,hK,hA,by show t.i+1+1=t.i+2; lia,by show t.ln=t.ln+nlc [92,d+1]; rw [show ([92,d+1]:List Nat)=[92]++[d+1] from rfl,nlc_app,nlc_one (by decide),nlc_one h10]; lia,tokApp t.tok (d+1)⟩
  | false =>
    rw [hh,if_neg Bool.false_ne_true] at hx
    rw [if_neg Bool.false_ne_true]
    have h34:d+1≠34:=by
      intro q; rw [q] at hh; exact absurd hh (by decide)
    have h92:d+1≠92:=by
      intro q; rw [q] at hh; exact absurd hh (by decide)
    by_cases h10:d+1=10
    · obtain rfl:d=9:=by lia
      obtain ⟨s',p',hC,hK,hA⟩:=seg_again (ids:=lexIds) (r:={exs:=[lexIds],ss:=[S [10]]}) (N:=N_ql) (fuel:=800) (p:=p) R hO (by decide) no_alts (lx_ql P w t x (gxO s (P.led w.params 1 t) p))
        (AllP.app (cAdd1 hl) (rd1 _ _ hx (by rw [hi])))
      exact ⟨s',p',_,hC,hK,hA,rfl,rfl,tokApp t.tok 10⟩
    · obtain ⟨s',p',hC,hK,hA⟩:=seg_again (ids:=lexIds) (r:={exs:=[lexIds],ss:=[ch1 d]}) (N:=N_qp) (fuel:=800) (p:=p) R hO (by decide) no_alts (lx_qp P w t x (gxO s (P.led w.params 1 t) p) d)
        (AllP.app (cAdd1 hl) (AllP.app (cIs_ok h92) (AllP.app (cIs_ok h34) (AllP.app (cSg_ok h10) (rd1 _ _ hx (by rw [hi]))))))
      exact ⟨s',p',_,hC,hK,hA,rfl,by show t.ln=t.ln+nlc [d+1]; rw [nlc_one h10]; lia,tokApp t.tok (d+1)⟩
theorem u_turn {P:RD} {w:World} {x:QX} {O:List Frame} (hO:OutIs O x.out) {t:RS} {s:Shared} {p:Pos} {n c:Nat} {r:List Nat} (R:Ready w s (P.led w.params 1 t)) (hi:t.i=(n:Int))
    (hx:P.x.cps.toList.drop n=encC hidU c++r) (hc:0<c∧c<128∧c≠13) (hl:t.tok.length≤1000) :
    ∃ s' p' t',Comes (model pw w) s ⟨(model pw w).den (uLoop P.aC P.aF),uLoop P.aC P.aF,p,O⟩ s' ⟨(model pw w).den (uLoop P.aC P.aF),uLoop P.aC P.aF,p',O⟩∧Told P w s 1 t s' t' false (encC hidU c) [c]:=by
  obtain ⟨d,rfl⟩ : ∃ d,c=d+1:=⟨c - 1,by lia⟩
  unfold encC at hx ⊢
  cases hh:hidU (d+1) with
  | true =>
    rw [hh,if_pos rfl] at hx
    rw [if_pos rfl]
    by_cases h10:d+1=10
    · obtain rfl:d=9:=by lia
      obtain ⟨s',p',hC,hK,hA⟩:=seg_again (ids:=lexIds) (r:={exs:=[lexIds],ss:=[S [92],S [10]]}) (N:=N_un) (fuel:=800) (p:=p) R hO (by decide) no_alts (lx_un P w t x (gxO s (P.led w.params 1 t) p))
        (AllP.app (cAdd1 hl) (AllP.app (rd1 _ _ (drop_step hx) (by rw [hi]; lia)) (rd1 _ _ hx (by rw [hi]))))
      exact ⟨s',p',_,hC,hK,hA,by show t.i+1+1=t.i+2; lia,rfl,tokApp t.tok 10⟩
    · obtain ⟨s',p',hC,hK,hA⟩:=seg_again (ids:=lexIds) (r:={exs:=[lexIds],ss:=[S [92],ch1 d]}) (N:=N_ue) (fuel:=800) (p:=p) R hO (by decide) no_alts (lx_ue P w t x (gxO s (P.led w.params 1 t) p) d)
        (AllP.app (cAdd1 hl) (AllP.app (cNl_ok h10) (AllP.app (rd1 _ _ (drop_step hx) (by rw [hi]; lia)) (rd1 _ _ hx (by rw [hi])))))
      exact ⟨s',p',_,hC,hK,hA,by show t.i+1+1=t.i+2; lia,by show t.ln=t.ln+nlc [92,d+1]; rw [show ([92,d+1]:List Nat)=[92]++[d+1] from rfl,nlc_app,nlc_one (by decide),nlc_one h10]; lia,tokApp t.tok (d+1)⟩
  | false =>
    rw [hh,if_neg Bool.false_ne_true] at hx
    rw [if_neg Bool.false_ne_true]
    simp only [hidU,Bool.or_eq_false_iff,beq_eq_false_iff_ne] at hh
    obtain ⟨⟨⟨⟨h34,h92⟩,h32⟩,h9⟩,h10⟩:=hh
    obtain ⟨s',p',hC,hK,hA⟩:=seg_again (ids:=lexIds) (r:={exs:=[lexIds],ss:=[ch1 d]}) (N:=N_up) (fuel:=800) (p:=p) R hO (by decide) no_alts (lx_up P w t x (gxO s (P.led w.params 1 t) p) d)
      (AllP.app (cAdd1 hl) (AllP.app (cIs_ok h92) (AllP.app (cWs_ok (by lia) (by simp only [Bool.or_eq_false_iff,beq_eq_false_iff_ne]; lia)) (AllP.app (cSg_ok h10) (rd1 _ _ hx (by rw [hi]))))))
    exact ⟨s',p',_,hC,hK,hA,rfl,by show t.ln=t.ln+nlc [d+1]; rw [nlc_one h10]; lia,tokApp t.tok (d+1)⟩
noncomputable def resB (fin:Bool) (y:Str) (ty:Nat):Result:=match fin with | false => .ok (.ret (.str y ty)) | true => .ok .next
theorem drop_app {X:List Nat} {n:Nat} {u r:List Nat} (h:X.drop n=u++r):X.drop (n+u.length)=r:=by
  rw [← List.drop_drop,h]; simp
theorem Told.len {P:RD} {w:World} {s s1:Shared} {sh:Nat} {t t1:RS} {fin:Bool} {u cs:List Nat} (h:Told P w s sh t s1 t1 fin u cs):t1.tok.length=t.tok.length+cs.length:=by
  rw [str_len,str_len,h.tok,List.length_append]
theorem q_ok {P:RD} {w:World} {x:QX} {O:List Frame} (hO:OutIs O x.out) : ∀ (cs:List Nat) {t:RS} {s:Shared} {p:Pos} {n:Nat} {r:List Nat},Ready w s (P.led w.params 1 t)→t.i=(n:Int) →
    P.x.cps.toList.drop n=encL hidQ cs++34 :: r→(∀ c∈cs,0<c∧c<128)→t.tok.length+cs.length≤1000 →
    ∃ s' t',EndsAt (model pw w) s (qLoop P.aC P.aF) p O s' (resB false t'.tok t'.tt)∧Told P w s 1 t s' t' false (encL hidQ cs++[34]) cs
  | [],t,s,p,n,r,R,hi,hx,hc,hl=>by
    obtain ⟨s',hE,hK,hA⟩:=seg_ret (ids:=lexIds) (r:={exs:=[lexIds],ss:=[S [34]]}) (N:=N_qz) (fuel:=800) (p:=p) R hO (by decide) no_alts (lx_qz P w t x (gxO s (P.led w.params 1 t) p)) (rd1 _ _ hx (by rw [hi]))
    refine ⟨s',_, ?_,⟨hK,hA,rfl, ?_, ?_⟩⟩
    · exact hE
    · show t.ln=t.ln+nlc [34]; rw [nlc_one (by decide)]; lia
    · exact (List.append_nil _).symm
  | c :: cs,t,s,p,n,r,R,hi,hx,hc,hl=>by
    have hx' : P.x.cps.toList.drop n=encC hidQ c++(encL hidQ cs++34 :: r):=by rw [hx]; simp [encL]
    rw [List.length_cons] at hl
    obtain ⟨s1,p1,t1,C,T⟩:=q_turn (p:=p) hO R hi hx' (hc c (.head _)) (by lia)
    obtain ⟨s2,t2,E,T2⟩:=q_ok hO cs (p:=p1) (n:=n+(encC hidQ c).length) (T.ready R) (by rw [T.i,hi]; lia) (drop_app hx') (fun y hy=>hc y (.tail _ hy)) (by rw [T.len,List.length_singleton]; lia)
    refine ⟨s2,t2,EndsAt.after C E, ?_⟩
    have z:=T.trans T2
    rw [← List.append_assoc] at z
    exact z
noncomputable def endU:Option Nat→List Nat | some k=>[k] | none=>[0]
noncomputable def restU:Option Nat→List Nat→List Nat | some k,r=>k :: r | none,_=>[]
noncomputable def isWs (k:Nat):Prop:=k=32∨k=9∨k=10∨k=13
theorem uz_any {P:RD} {w:World} {x:QX} {O:List Frame} (hO:OutIs O x.out) {t:RS} {s:Shared} {p:Pos} {n:Nat} (R:Ready w s (P.led w.params 1 t)) (hi:t.i=(n:Int)) (hx:P.x.cps.toList.drop n=[]) :
    ∃ s' t',EndsAt (model pw w) s (uLoop P.aC P.aF) p O s' (.ok .next)∧Told P w s 1 t s' t' true [0] []:=by
  by_cases h:P.f 13=endTok P t (gxO s (P.led w.params 1 t) p)
  · obtain ⟨s',hE,hK,hA⟩:=seg_ret (ids:=lexIds) (r:={exs:=[lexIds],ss:=[S []],alts:=[altY w P (endTok P t (gxO s (P.led w.params 1 t) p)) h]}) (N:=N_uzY) (fuel:=800) (p:=p) R hO (by decide) (fun y hy=>by
      rcases List.mem_cons.mp hy with rfl | hy
      · exact altY_ok w P _ h
      · exact nomatch hy) (lx_uzY P w t x (gxO s (P.led w.params 1 t) p) h) (rd0 _ _ hx (by rw [hi]))
    exact ⟨s',_,hE,hK,hA,rfl,by show t.ln=t.ln+0; lia,(List.append_nil _).symm⟩
  · obtain ⟨s',hE,hK,hA⟩:=seg_ret (ids:=lexIds) (r:={exs:=[lexIds],ss:=[S []],alts:=[altN w P (endTok P t (gxO s (P.led w.params 1 t) p)) h]}) (N:=N_uzN) (fuel:=800) (p:=p) R hO (by decide) (fun y hy=>by
      rcases List.mem_cons.mp hy with rfl | hy
      · exact altN_ok w P _ h
      · exact nomatch hy) (lx_uzN P w t x (gxO s (P.led w.params 1 t) p) h) (rd0 _ _ hx (by rw [hi]))
    exact ⟨s',_,hE,hK,hA,rfl,by show t.ln=t.ln+0; lia,(List.append_nil _).symm⟩
theorem u_ok {P:RD} {w:World} {x:QX} {O:List Frame} (hO:OutIs O x.out) (e:Option Nat) (he : ∀ k,e=some k→isWs k) : ∀ (cs:List Nat) {t:RS} {s:Shared} {p:Pos} {n:Nat} {r:List Nat},Ready w s (P.led w.params 1 t)→t.i=(n:Int) →
    P.x.cps.toList.drop n=encL hidU cs++restU e r→(∀ c∈cs,0<c∧c<128∧c≠13)→t.tok.length+cs.length≤1000 →
    ∃ s' t',EndsAt (model pw w) s (uLoop P.aC P.aF) p O s' (resB e.isNone t'.tok t'.tt)∧Told P w s 1 t s' t' e.isNone (encL hidU cs++endU e) cs
  | [],t,s,p,n,r,R,hi,hx,hc,hl=>by
    cases e with
    | none=>exact uz_any hO R hi hx
    | some k =>
      have hk:=he k rfl
      by_cases h10:k=10
      · subst h10
        obtain ⟨s',hE,hK,hA⟩:=seg_ret (ids:=lexIds) (r:={exs:=[lexIds],ss:=[S [10]]}) (N:=N_ul) (fuel:=800) (p:=p) R hO (by decide) no_alts (lx_ul P w t x (gxO s (P.led w.params 1 t) p)) (rd1 _ _ hx (by rw [hi]))
        refine ⟨s',_, ?_,⟨hK,hA,rfl,rfl,(List.append_nil _).symm⟩⟩
        exact hE
      · obtain ⟨d,rfl⟩ : ∃ d,k=d+1:=⟨k - 1,by unfold isWs at hk; lia⟩
        obtain ⟨s',hE,hK,hA⟩:=seg_ret (ids:=lexIds) (r:={exs:=[lexIds],ss:=[ch1 d]}) (N:=N_uw) (fuel:=800) (p:=p) R hO (by decide) no_alts (lx_uw P w t x (gxO s (P.led w.params 1 t) p) d)
          (AllP.app (cWs_ok (by unfold isWs at hk; lia) (by unfold isWs at hk; rcases hk with q | q | q | q <;> simp [q])) (AllP.app (cSg_ok h10) (rd1 _ _ hx (by rw [hi]))))
        refine ⟨s',_, ?_,⟨hK,hA,rfl,by show t.ln=t.ln+nlc [d+1]; rw [nlc_one h10]; lia,(List.append_nil _).symm⟩⟩
        exact hE
  | c :: cs,t,s,p,n,r,R,hi,hx,hc,hl=>by
    have hx' : P.x.cps.toList.drop n=encC hidU c++(encL hidU cs++restU e r):=by rw [hx]; simp [encL]
    rw [List.length_cons] at hl
    obtain ⟨s1,p1,t1,C,T⟩:=u_turn (p:=p) hO R hi hx' (hc c (.head _)) (by lia)
    obtain ⟨s2,t2,E,T2⟩:=u_ok hO e he cs (p:=p1) (n:=n+(encC hidU c).length) (T.ready R) (by rw [T.i,hi]; lia) (drop_app hx') (fun y hy=>hc y (.tail _ hy)) (by rw [T.len,List.length_singleton]; lia)
    refine ⟨s2,t2,EndsAt.after C E, ?_⟩
    have z:=T.trans T2
    rw [← List.append_assoc] at z
    exact z
end Mine
end
section
open PySem PySem.W PySem.W.X PySem.Calls PyProof.Rows PySem.SeqAt
namespace Mine
noncomputable def RI.effB (i:RI) (P:RD) (w:Params) (fin:Bool):Eff:=⟨resB fin i.y i.ty,zipU lexIds (P.led w 1 i.u fin),[],i.b,i.k,i.g⟩
theorem outer_cut {P:RD} {w:World} {x:CX} {O:List Frame} (hO:OutIs O x.out) {sh N:Nat} {t:RS} {s:Shared} {p:Pos} {ss:List Str} {il:Addr→Addr→Code} {CS:GX→List Prop} {fin:Bool} {k u cs0 cs:List Nat}
    (F : ∀ c,∃ t1:RS,t1.i=t.i+(k.length:Int)∧t1.ln=t.ln+nlc k∧t1.tok.cps.toList=t.tok.cps.toList++cs0 ∧ ∀ i:RI,isCut (P.run w tokLoop sh t ss x.out c N) (il P.aC P.aF) ((P.led w.params 1 t1).map some) (CS c) ∧
      (P.run w tokLoop sh t ss x.out c N).row.stk=(x.qx P (P.run w tokLoop sh t ss x.out c N).sp2).out∧isRet ((P.run w tokLoop sh t ss x.out c N).rest (i.effB P w.params fin)) (resB fin i.y i.ty) ((P.led w.params 1 i.u fin).map some) [])
    (hCS : ∀ c,AllP (CS c)) (R:Ready w s (P.led w.params sh t))
    (inner : ∀ (s1:Shared) (p1:Pos) (O1:List Frame) (t1:RS) (y:QX),OutIs O1 y.out→Ready w s1 (P.led w.params 1 t1)→t1.i=t.i+(k.length:Int)→t1.tok.cps.toList=t.tok.cps.toList++cs0 →
      ∃ s2 t2,EndsAt (model pw w) s1 (il P.aC P.aF) p1 O1 s2 (resB fin t2.tok t2.tt)∧Told P w s1 1 t1 s2 t2 fin u cs) :
    ∃ s' t',EndsAt (model pw w) s (tokLoop P.aC P.aF) p O s' (resB fin t'.tok t'.tt)∧Told P w s sh t s' t' fin (k++u) (cs0++cs):=by
  obtain ⟨t1,hi,hl,ht,F⟩:=F (gxO s (P.led w.params sh t) p)
  obtain ⟨r,s',hE,t2,rfl,hK,hA,h1,h2,h3⟩:=seg_ok (P:=fun r s' => ∃ t2,r=resB fin t2.tok t2.tt∧Kept s s' (P.led w.params sh t).as∧AllAt s' (P.led w.params 1 t2 fin)∧t2.i=t1.i+(u.length:Int)∧t2.ln=t1.ln+nlc u∧t2.tok.cps.toList=t1.tok.cps.toList++cs)
    (p:=p) (N:=N) (fuel:=800) (ids:=lexIds) (r:={exs:=[lexIds],ss:=ss}) R hO (by decide) no_alts
    (ok_cut (F ⟨t,S [],0,0,0,0⟩).1 (hCS _) (fun s1 p1 O1 base off tk Ps hb hO1=>by
      obtain ⟨s2,t2,hE,T⟩:=inner s1 p1 O1 t1 _ (hO1.outIs (F ⟨t,S [],0,0,0,0⟩).2.1) (Ready.cut Ps hb R.nd (kNone_eq R.ap rfl)) hi ht
      refine ⟨RI.effB ⟨t2,t2.tok,t2.tt,s2.heap.objs.size,s2.toks,s2.gens.size⟩ P w.params fin,s2,hE, ?_, ?_⟩
      · exact eff_of (ix:=lexIds) (F:=P.led w.params 1 t2 fin) (news:=[]) (by
          have:=T.kept
          exact this) T.at' (fun _ h=>nomatch h) (fun _ h=>nomatch h) List.nodup_nil (by decide) rfl
      · exact ok_ret (F ⟨t2,t2.tok,t2.tt,s2.heap.objs.size,s2.toks,s2.gens.size⟩).2.2 no_cond (fun s' _ _ _ gb P' hb=>⟨t2,rfl,kept_of R.starts P' hb,all_of P',T.i,T.ln,T.tok⟩)))
  exact ⟨s',t2,hE,hK,hA,by rw [h1,hi,List.length_append]; lia,by rw [h2,hl,nlc_app]; lia,by rw [h3,ht,List.append_assoc]⟩
end Mine
end
section
open PySem PySem.W PySem.W.X PySem.Calls PyProof.Rows PySem.SeqAt
namespace Mine
theorem first_q {P:RD} {w:World} {x:CX} {O:List Frame} (hO:OutIs O x.out) {sh:Nat} (hsh:sh=0∨sh=1) {t:RS} {s:Shared} {p:Pos} {n:Nat} {cs r:List Nat} (R:Ready w s (P.led w.params sh t)) (hi:t.i=(n:Int))
    (hx:P.x.cps.toList.drop n=34 :: (encL hidQ cs++34 :: r)) (hc : ∀ c∈cs,0<c∧c<128) (hl:t.tok.length+cs.length≤900) :
    ∃ s' t',EndsAt (model pw w) s (tokLoop P.aC P.aF) p O s' (resB false t'.tok t'.tt)∧Told P w s sh t s' t' false ([34]++(encL hidQ cs++[34])) ([]++cs):=by
  have inner : ∀ (s1:Shared) (p1:Pos) (O1:List Frame) (t1:RS) (y:QX),OutIs O1 y.out→Ready w s1 (P.led w.params 1 t1)→t1.i=t.i+(([34]:List Nat).length:Int)→t1.tok.cps.toList=t.tok.cps.toList++[] →
      ∃ s2 t2,EndsAt (model pw w) s1 (qLoop P.aC P.aF) p1 O1 s2 (resB false t2.tok t2.tt)∧Told P w s1 1 t1 s2 t2 false (encL hidQ cs++[34]) cs:=fun s1 p1 O1 t1 y hO1 R1 hi1 ht1 =>
    q_ok hO1 cs (n:=n+1) (r:=r) R1 (by rw [hi1,hi]; simp) (drop_step hx) hc (by rw [str_len,ht1,List.append_nil,← str_len]; lia)
  have h34:nlc [34]=0:=nlc_one (by decide)
  rcases hsh with rfl | rfl
  · exact outer_cut hO (N:=N_oq0) (ss:=[S [34]]) (il:=qLoop) (fin:=false) (k:=[34]) (cs0:=[]) (fun c=>by
      refine ⟨_, ?_, ?_, ?_,fun i=>lx_oq0 P w t x c i⟩
      · rfl
      · show t.ln=t.ln+nlc [34]; lia
      · exact (List.append_nil _).symm) (fun c=>rd1 _ _ hx (by rw [hi])) R inner
  · exact outer_cut hO (N:=N_oq1) (ss:=[S [34]]) (il:=qLoop) (fin:=false) (k:=[34]) (cs0:=[]) (fun c=>by
      refine ⟨_, ?_, ?_, ?_,fun i=>lx_oq1 P w t x c i⟩
      · rfl
      · show t.ln=t.ln+nlc [34]; lia
      · exact (List.append_nil _).symm) (fun c=>rd1 _ _ hx (by rw [hi])) R inner
theorem first_u {P:RD} {w:World} {x:CX} {O:List Frame} (hO:OutIs O x.out) {sh:Nat} (hsh:sh=0∨sh=1) (e:Option Nat) (he : ∀ k,e=some k→isWs k) {t:RS} {s:Shared} {p:Pos} {n c:Nat} {cs r:List Nat} (R:Ready w s (P.led w.params sh t)) (hi:t.i=(n:Int))
    (hx:P.x.cps.toList.drop n=encC hidU c++(encL hidU cs++restU e r)) (h0:0<c∧c<128∧c≠13) (hc : ∀ c∈cs,0<c∧c<128∧c≠13) (hl:t.tok.length+cs.length≤900) :
    ∃ s' t',EndsAt (model pw w) s (tokLoop P.aC P.aF) p O s' (resB e.isNone t'.tok t'.tt)∧Told P w s sh t s' t' e.isNone (encC hidU c++(encL hidU cs++endU e)) ([c]++cs):=by
  have inner : ∀ (s1:Shared) (p1:Pos) (O1:List Frame) (t1:RS) (y:QX),OutIs O1 y.out→Ready w s1 (P.led w.params 1 t1)→t1.i=t.i+((encC hidU c).length:Int)→t1.tok.cps.toList=t.tok.cps.toList++[c] →
      ∃ s2 t2,EndsAt (model pw w) s1 (uLoop P.aC P.aF) p1 O1 s2 (resB e.isNone t2.tok t2.tt)∧Told P w s1 1 t1 s2 t2 e.isNone (encL hidU cs++endU e) cs:=fun s1 p1 O1 t1 y hO1 R1 hi1 ht1 =>
    u_ok hO1 e he cs (n:=n+(encC hidU c).length) (r:=r) R1 (by rw [hi1,hi]; lia) (drop_app hx) hc (by rw [str_len,ht1,List.length_append,← str_len]; simp; lia)
  have hl' : t.tok.length≤1000:=by lia
  obtain ⟨d,rfl⟩ : ∃ d,c=d+1:=⟨c - 1,by lia⟩
  unfold encC at hx inner ⊢
  cases hh:hidU (d+1) with
  | true =>
    rw [hh,if_pos rfl] at hx inner
    rw [if_pos rfl]
    by_cases h10:d+1=10
    · obtain rfl:d=9:=by lia
      have hn:nlc [92,9+1]=1:=rfl
      rcases hsh with rfl | rfl <;> rcases e with _ | e
      · exact outer_cut hO (N:=N_onx0) (ss:=[S [92],S [10]]) (il:=uLoop) (fin:=true) (k:=[92,9+1]) (cs0:=[10]) (fun c=>by
          refine ⟨_, ?_, ?_, ?_,fun i=>lx_onx0 P w t x c i⟩
          · show t.i+1+1=t.i+2; lia
          · show t.ln+1=t.ln+nlc [92,9+1]; lia
          · exact tokApp t.tok (10)) (fun c=>AllP.app (cAdd1 hl') (AllP.app (rd1 _ _ (drop_step hx) (by rw [hi]; lia)) (rd1 _ _ hx (by rw [hi])))) R inner
      · exact outer_cut hO (N:=N_on0) (ss:=[S [92],S [10]]) (il:=uLoop) (fin:=false) (k:=[92,9+1]) (cs0:=[10]) (fun c=>by
          refine ⟨_, ?_, ?_, ?_,fun i=>lx_on0 P w t x c i⟩
          · show t.i+1+1=t.i+2; lia
          · show t.ln+1=t.ln+nlc [92,9+1]; lia
          · exact tokApp t.tok (10)) (fun c=>AllP.app (cAdd1 hl') (AllP.app (rd1 _ _ (drop_step hx) (by rw [hi]; lia)) (rd1 _ _ hx (by rw [hi])))) R inner
      · exact outer_cut hO (N:=N_onx1) (ss:=[S [92],S [10]]) (il:=uLoop) (fin:=true) (k:=[92,9+1]) (cs0:=[10]) (fun c=>by
          refine ⟨_, ?_, ?_, ?_,fun i=>lx_onx1 P w t x c i⟩
          · show t.i+1+1=t.i+2; lia
          · show t.ln+1=t.ln+nlc [92,9+1]; lia
          · exact tokApp t.tok (10)) (fun c=>AllP.app (cAdd1 hl') (AllP.app (rd1 _ _ (drop_step hx) (by rw [hi]; lia)) (rd1 _ _ hx (by rw [hi])))) R inner
      · exact outer_cut hO (N:=N_on1) (ss:=[S [92],S [10]]) (il:=uLoop) (fin:=false) (k:=[92,9+1]) (cs0:=[10]) (fun c=>by
          refine ⟨_, ?_, ?_, ?_,fun i=>lx_on1 P w t x c i⟩
          · show t.i+1+1=t.i+2; lia
          · show t.ln+1=t.ln+nlc [92,9+1]; lia
          · exact tokApp t.tok (10)) (fun c=>AllP.app (cAdd1 hl') (AllP.app (rd1 _ _ (drop_step hx) (by rw [hi]; lia)) (rd1 _ _ hx (by rw [hi])))) R inner
    · have hn:nlc [92,d+1]=0:=by rw [show ([92,d+1]:List Nat)=[92]++[d+1] from rfl,nlc_app,nlc_one (by decide),nlc_one h10]; rfl
      rcases hsh with rfl | rfl <;> rcases e with _ | e
      · exact outer_cut hO (N:=N_oex0) (ss:=[S [92],ch1 d]) (il:=uLoop) (fin:=true) (k:=[92,d+1]) (cs0:=[d+1]) (fun c=>by
          refine ⟨_, ?_, ?_, ?_,fun i=>lx_oex0 P w t x c d i⟩
          · show t.i+1+1=t.i+2; lia
          · show t.ln=t.ln+nlc [92,d+1]; lia
          · exact tokApp t.tok (d+1)) (fun c=>AllP.app (cAdd1 hl') (AllP.app (cNl_ok h10) (AllP.app (rd1 _ _ (drop_step hx) (by rw [hi]; lia)) (rd1 _ _ hx (by rw [hi]))))) R inner
      · exact outer_cut hO (N:=N_oe0) (ss:=[S [92],ch1 d]) (il:=uLoop) (fin:=false) (k:=[92,d+1]) (cs0:=[d+1]) (fun c=>by
          refine ⟨_, ?_, ?_, ?_,fun i=>lx_oe0 P w t x c d i⟩
          · show t.i+1+1=t.i+2; lia
          · show t.ln=t.ln+nlc [92,d+1]; lia
          · exact tokApp t.tok (d+1)) (fun c=>AllP.app (cAdd1 hl') (AllP.app (cNl_ok h10) (AllP.app (rd1 _ _ (drop_step hx) (by rw [hi]; lia)) (rd1 _ _ hx (by rw [hi]))))) R inner
      · exact outer_cut hO (N:=N_oex1) (ss:=[S [92],ch1 d]) (il:=uLoop) (fin:=true) (k:=[92,d+1]) (cs0:=[d+1]) (fun c=>by
          refine ⟨_, ?_, ?_, ?_,fun i=>lx_oex1 P w t x c d i⟩
          · show t.i+1+1=t.i+2; lia
          · show t.ln=t.ln+nlc [92,d+1]; lia
          · exact tokApp t.tok (d+1)) (fun c=>AllP.app (cAdd1 hl') (AllP.app (cNl_ok h10) (AllP.app (rd1 _ _ (drop_step hx) (by rw [hi]; lia)) (rd1 _ _ hx (by rw [hi]))))) R inner
      · exact outer_cut hO (N:=N_oe1) (ss:=[S [92],ch1 d]) (il:=uLoop) (fin:=false) (k:=[92,d+1]) (cs0:=[d+1]) (fun c=>by
          refine ⟨_, ?_, ?_, ?_,fun i=>lx_oe1 P w t x c d i⟩
          · show t.i+1+1=t.i+2; lia
          · show t.ln=t.ln+nlc [92,d+1]; lia
          · exact tokApp t.tok (d+1)) (fun c=>AllP.app (cAdd1 hl') (AllP.app (cNl_ok h10) (AllP.app (rd1 _ _ (drop_step hx) (by rw [hi]; lia)) (rd1 _ _ hx (by rw [hi]))))) R inner
  | false =>
    rw [hh,if_neg Bool.false_ne_true] at hx inner
    rw [if_neg Bool.false_ne_true]
    simp only [hidU,Bool.or_eq_false_iff,beq_eq_false_iff_ne] at hh
    obtain ⟨⟨⟨⟨h34,h92⟩,h32⟩,h9⟩,h10⟩:=hh
    have hn:nlc [d+1]=0:=nlc_one h10
    rcases hsh with rfl | rfl <;> rcases e with _ | e
    · exact outer_cut hO (N:=N_opx0) (ss:=[ch1 d]) (il:=uLoop) (fin:=true) (k:=[d+1]) (cs0:=[d+1]) (fun c=>by
        refine ⟨_, ?_, ?_, ?_,fun i=>lx_opx0 P w t x c d i⟩
        · rfl
        · show t.ln=t.ln+nlc [d+1]; lia
        · exact tokApp t.tok (d+1)) (fun c=>AllP.app (cAdd1 hl') (AllP.app (cIs_ok h92) (AllP.app (cIs_ok h34) (AllP.app (cWs_ok (by lia) (by simp only [Bool.or_eq_false_iff,beq_eq_false_iff_ne]; lia)) (AllP.app (cSg_ok h10) (rd1 _ _ hx (by rw [hi]))))))) R inner
    · exact outer_cut hO (N:=N_op0) (ss:=[ch1 d]) (il:=uLoop) (fin:=false) (k:=[d+1]) (cs0:=[d+1]) (fun c=>by
        refine ⟨_, ?_, ?_, ?_,fun i=>lx_op0 P w t x c d i⟩
        · rfl
        · show t.ln=t.ln+nlc [d+1]; lia
        · exact tokApp t.tok (d+1)) (fun c=>AllP.app (cAdd1 hl') (AllP.app (cIs_ok h92) (AllP.app (cIs_ok h34) (AllP.app (cWs_ok (by lia) (by simp only [Bool.or_eq_false_iff,beq_eq_false_iff_ne]; lia)) (AllP.app (cSg_ok h10) (rd1 _ _ hx (by rw [hi]))))))) R inner
    · exact outer_cut hO (N:=N_opx1) (ss:=[ch1 d]) (il:=uLoop) (fin:=true) (k:=[d+1]) (cs0:=[d+1]) (fun c=>by
        refine ⟨_, ?_, ?_, ?_,fun i=>lx_opx1 P w t x c d i⟩
        · rfl
        · show t.ln=t.ln+nlc [d+1]; lia
        · exact tokApp t.tok (d+1)) (fun c=>AllP.app (cAdd1 hl') (AllP.app (cIs_ok h92) (AllP.app (cIs_ok h34) (AllP.app (cWs_ok (by lia) (by simp only [Bool.or_eq_false_iff,beq_eq_false_iff_ne]; lia)) (AllP.app (cSg_ok h10) (rd1 _ _ hx (by rw [hi]))))))) R inner
    · exact outer_cut hO (N:=N_op1) (ss:=[ch1 d]) (il:=uLoop) (fin:=false) (k:=[d+1]) (cs0:=[d+1]) (fun c=>by
        refine ⟨_, ?_, ?_, ?_,fun i=>lx_op1 P w t x c d i⟩
        · rfl
        · show t.ln=t.ln+nlc [d+1]; lia
        · exact tokApp t.tok (d+1)) (fun c=>AllP.app (cAdd1 hl') (AllP.app (cIs_ok h92) (AllP.app (cIs_ok h34) (AllP.app (cWs_ok (by lia) (by simp only [Bool.or_eq_false_iff,beq_eq_false_iff_ne]; lia)) (AllP.app (cSg_ok h10) (rd1 _ _ hx (by rw [hi]))))))) R inner
theorem ws_turn {P:RD} {w:World} {x:CX} {O:List Frame} (hO:OutIs O x.out) {t:RS} {s:Shared} {p:Pos} {n k:Nat} {r:List Nat} (R:Ready w s (P.led w.params 0 t)) (hi:t.i=(n:Int)) (hx:P.x.cps.toList.drop n=k :: r) (hk:isWs k) :
    ∃ s' p' t',Comes (model pw w) s ⟨(model pw w).den (tokLoop P.aC P.aF),tokLoop P.aC P.aF,p,O⟩ s' ⟨(model pw w).den (tokLoop P.aC P.aF),tokLoop P.aC P.aF,p',O⟩∧Told P w s 0 t s' t' false [k] []:=by
  by_cases h10:k=10
  · subst h10
    obtain ⟨s',p',hC,hK,hA⟩:=seg_again (ids:=lexIds) (r:={exs:=[lexIds],ss:=[S [10]]}) (N:=N_onl0) (fuel:=800) (p:=p) R hO (by decide) no_alts (lx_onl0 P w t x (gxO s (P.led w.params 0 t) p)) (rd1 _ _ hx (by rw [hi]))
    exact ⟨s',p',_,hC,hK,hA,rfl,rfl,(List.append_nil _).symm⟩
  · obtain ⟨d,rfl⟩ : ∃ d,k=d+1:=⟨k - 1,by unfold isWs at hk; lia⟩
    obtain ⟨s',p',hC,hK,hA⟩:=seg_again (ids:=lexIds) (r:={exs:=[lexIds],ss:=[ch1 d]}) (N:=N_ows0) (fuel:=800) (p:=p) R hO (by decide) no_alts (lx_ows0 P w t x (gxO s (P.led w.params 0 t) p) d)
      (AllP.app (cWs_ok (by unfold isWs at hk; lia) (by unfold isWs at hk; rcases hk with q | q | q | q <;> simp [q])) (AllP.app (cSg_ok h10) (rd1 _ _ hx (by rw [hi]))))
    exact ⟨s',p',_,hC,hK,hA,rfl,by show t.ln=t.ln+nlc [d+1]; rw [nlc_one h10]; lia,(List.append_nil _).symm⟩
inductive Form:List Nat→List Nat→List Nat→Bool→Prop
  | q (cs r:List Nat) (hc : ∀ c∈cs,0<c∧c<128) (hl:cs.length≤900):Form (34 :: (encL hidQ cs++34 :: r)) ([34]++(encL hidQ cs++[34])) cs false
  | u (e:Option Nat) (he : ∀ k,e=some k→isWs k) (c:Nat) (cs r:List Nat) (h0:0<c∧c<128∧c≠13) (hc : ∀ c∈cs,0<c∧c<128∧c≠13) (hl:cs.length≤900):Form (encC hidU c++(encL hidU cs++restU e r)) (encC hidU c++(encL hidU cs++endU e)) (c :: cs) e.isNone
theorem first_ok {P:RD} {w:World} {x:CX} {O:List Frame} (hO:OutIs O x.out) {sh:Nat} (hsh:sh=0∨sh=1) {t:RS} {s:Shared} {p:Pos} {n:Nat} {body used cs:List Nat} {fin:Bool} (R:Ready w s (P.led w.params sh t)) (hi:t.i=(n:Int))
    (hx:P.x.cps.toList.drop n=body) (hF:Form body used cs fin) (ht:t.tok.length=0) :
    ∃ s' t',EndsAt (model pw w) s (tokLoop P.aC P.aF) p O s' (resB fin t'.tok t'.tt)∧Told P w s sh t s' t' fin used cs:=by
  cases hF with
  | q cs r hc hl=>exact first_q hO hsh R hi hx hc (by lia)
  | u e he c cs r h0 hc hl=>exact first_u hO hsh e he R hi hx h0 hc (by lia)
noncomputable def whL:Option Nat→List Nat | some k=>[k] | none=>[]
theorem outer_ok {P:RD} {w:World} {x:CX} {O:List Frame} (hO:OutIs O x.out) (wh:Option Nat) (hw : ∀ k,wh=some k→isWs k) {t:RS} {s:Shared} {p:Pos} {n:Nat} {body used cs:List Nat} {fin:Bool} (R:Ready w s (P.led w.params 0 t)) (hi:t.i=(n:Int))
    (hx:P.x.cps.toList.drop n=whL wh++body) (hF:Form body used cs fin) (ht:t.tok.length=0) :
    ∃ s' t',EndsAt (model pw w) s (tokLoop P.aC P.aF) p O s' (resB fin t'.tok t'.tt)∧Told P w s 0 t s' t' fin (whL wh++used) cs:=by
  cases wh with
  | none=>exact first_ok hO (.inl rfl) R hi hx hF ht
  | some k =>
    obtain ⟨s1,p1,t1,C,T⟩:=ws_turn (p:=p) hO R hi hx (hw k rfl)
    obtain ⟨s2,t2,E,T2⟩:=first_ok (p:=p1) (n:=n+1) hO (.inr rfl) (T.ready R) (by rw [T.i,hi]; rfl) (drop_step hx) hF (by rw [T.len,ht]; rfl)
    exact ⟨s2,t2,EndsAt.after C E,T.trans T2⟩
end Mine
end
section
open PySem PySem.W PySem.W.X PySem.Calls PyProof.Rows PySem.SeqAt
namespace Mine
theorem Ready.newNone {w:World} {s:Shared} (old:Old w s) {a:Addr} (h:s.heap.objs.size≤a):(ktP w.params).get a=none:=by
  cases q:(ktP w.params).get a with
  | none=>rfl
  | some o=>exact absurd (get?_lt (old a o q)) (Nat.not_lt.mpr h)
theorem nd3 {L:List Nat} {b:Nat} (h:L.Nodup) (hb : ∀ a∈L,a<b):((b+2) :: b :: (b+1) :: L).Nodup:=by
  have h0:b∉L:=fun q=>by have:=hb _ q; lia
  have h1:b+1∉L:=fun q=>by have:=hb _ q; lia
  have h2:b+2∉L:=fun q=>by have:=hb _ q; lia
  rw [List.nodup_cons,List.nodup_cons,List.nodup_cons]
  simp only [List.mem_cons,not_or]
  exact ⟨⟨by lia,by lia,h2⟩,⟨by lia,h0⟩,h1,h⟩
theorem in_ready {P:RD} {w:World} {s s1:Shared} {t:RS} {k:Nat} {V:Cfg} (R:Ready w s (P.obj w.params t)) (hA:AllAt s1 ((P.in s.heap.objs.size k).led w.params 0 (t.in k))) (old:Old w s1) (hb:Bare s1):Ready w s1 ((P.in s.heap.objs.size k).led w.params 0 (t.in k)) where
  at' :=hA
  nd:=nd3 R.nd (fun a ha=>R.lt ha)
  ap:=fun x hx=>by
    have:x.1∈((s.heap.objs.size+2) :: s.heap.objs.size :: (s.heap.objs.size+1) :: (P.obj w.params t).as:List Addr):=List.mem_map.mpr ⟨x,hx,rfl⟩
    rcases List.mem_cons.mp this with q | this
    · rw [q]; exact Ready.newNone R.old (by lia)
    rcases List.mem_cons.mp this with q | this
    · rw [q]; exact Ready.newNone R.old (by lia)
    rcases List.mem_cons.mp this with q | this
    · rw [q]; exact Ready.newNone R.old (by lia)
    · exact kNone_as R.ap _ this
  old:=old
  bare:=hb
structure Got (P:RD) (w:World) (s:Shared) (t:RS) (s' : Shared) (t' : RS) (u:List Nat):Prop where
  kept:Kept s s' (P.obj w.params t).as
  at' : AllAt s' (P.obj w.params t')
  i:t'.i=t.i+(u.length:Int)
  ln:t'.ln=t.ln+nlc u
theorem old_of {V:Cfg} {w:World} {rep:Rp} {s:Shared} {base off tk:Nat} {ol:Stk} {ids:List Nat} {g:Gh} {r:Ora} (P : ∃ ids' gb,Pst (Vk w ol ids g r) s ids' rep base off tk gb):Old w s:=by
  obtain ⟨_,_,P⟩:=P; exact P.old
theorem gettok_of {P:RD} {w:World} {o:OP} {O:List Frame} (hO:OutIs O o.out) {t:RS} {s:Shared} {p:Pos} {N sh:Nat} {fin:Bool} {used cs:List Nat} {ef:RD→RI→Eff}
    (he : ∀ Q i,ef Q i=⟨resB fin i.y i.ty,zipU pIds (Q.led w.params sh i.u fin),[],i.b,i.k,i.g⟩)
    (F : ∀ c i,isCut (P.runT w t o c N) (tokLoop (c.base+2) c.base) (((P.in c.base c.tk).led w.params 0 (t.in c.tk)).map some) [] ∧
      (P.runT w t o c N).row.stk=CX.out ⟨tokD.b,tokEnv c.base,(P.runT w t o c N).sp2,o,c.g,0,0,0,c.p⟩ ∧
      ∀ (hy:fin=true→i.y=i.u.tok∧i.ty=i.u.tt),isRet ((P.runT w t o c N).rest (ef (P.in c.base c.tk) i)) (.ok (.ret (.str i.y i.ty))) ((P.obj w.params i.u).map some) [])
    (R:Ready w s (P.obj w.params t))
    (outer : ∀ (s1:Shared) (p1:Pos) (O1:List Frame) (y:CX),OutIs O1 y.out→Ready w s1 ((P.in s.heap.objs.size s.toks).led w.params 0 (t.in s.toks)) →
      ∃ s2 t2,EndsAt (model pw w) s1 (tokLoop (s.heap.objs.size+2) s.heap.objs.size) p1 O1 s2 (resB fin t2.tok t2.tt)∧Kept s1 s2 ((P.in s.heap.objs.size s.toks).led w.params 0 (t.in s.toks)).as∧AllAt s2 ((P.in s.heap.objs.size s.toks).led w.params sh t2 fin) ∧
        t2.i=t.i+(used.length:Int)∧t2.ln=t.ln+nlc used∧t2.tok.cps.toList=cs) :
    ∃ s' t' y ty,EndsAt (model pw w) s (.call (.ref 177) ⟨[.ref P.aR],[]⟩) p O s' (.ok (.ret (.str y ty)))∧Got P w s t s' t' used∧y.cps.toList=cs:=by
  obtain ⟨r,s',hE,t2,rfl,hK,hA,h1,h2,h3⟩:=seg_ok (P:=fun r s' => ∃ t2:RS,r = .ok (.ret (.str t2.tok t2.tt))∧Kept s s' (P.obj w.params t).as∧AllAt s' (P.obj w.params t2)∧t2.i=t.i+(used.length:Int)∧t2.ln=t.ln+nlc used∧t2.tok.cps.toList=cs)
    (p:=p) (N:=N) (fuel:=800) (ids:=objIds) (r:={exs:=[pIds]}) (c:= .call (.ref 177) ⟨[.ref P.aR],[]⟩) R hO (by decide) no_alts
    (ok_cut (F (gxO s (P.obj w.params t) p) ⟨t,S [],0,0,0,0⟩).1 no_cond (fun s1 p1 O1 base off tk Ps hb hO1=>by
      obtain ⟨s2,t2,hE,hK,hA,h1,h2,h3⟩:=outer s1 p1 O1 _ (hO1.outIs (F (gxO s (P.obj w.params t) p) ⟨t,S [],0,0,0,0⟩).2.1) (in_ready (V:=Vk w o.out objIds (ghO s (P.obj w.params t)) {exs:=[pIds]}) R (pst_at Ps) (by obtain ⟨_,_,P⟩:=Ps; exact P.old) hb)
      refine ⟨ef (P.in s.heap.objs.size s.toks) ⟨t2,t2.tok,t2.tt,s2.heap.objs.size,s2.toks,s2.gens.size⟩,s2, ?_, ?_, ?_⟩
      · rw [he]; exact hE
      · rw [he]; exact eff_of (ix:=pIds) (F:=(P.in s.heap.objs.size s.toks).led w.params sh t2 fin) (news:=[]) (by
          exact hK) hA (fun _ h=>nomatch h) (fun _ h=>nomatch h) List.nodup_nil (by decide) rfl
      · exact ok_ret ((F (gxO s (P.obj w.params t) p) ⟨t2,t2.tok,t2.tt,s2.heap.objs.size,s2.toks,s2.gens.size⟩).2.2 (fun _=>⟨rfl,rfl⟩)) no_cond (fun s' _ _ _ gb P' hb=>⟨t2,rfl,kept_of R.starts P' hb,all_of P',h1,h2,h3⟩)))
  exact ⟨s',t2,t2.tok,t2.tt,hE,⟨hK,hA,h1,h2⟩,h3⟩
theorem in_lz {t:RS} {k:Nat}:(t.in k).tok.length=0:=rfl
theorem gettok_ok {P:RD} {w:World} {o:OP} {O:List Frame} (hO:OutIs O o.out) (wh:Option Nat) (hw : ∀ k,wh=some k→isWs k) {t:RS} {s:Shared} {p:Pos} {n:Nat} {body used cs:List Nat} {fin:Bool} (R:Ready w s (P.obj w.params t)) (hi:t.i=(n:Int))
    (hx:P.x.cps.toList.drop n=whL wh++body) (hF:Form body used cs fin) :
    ∃ s' t' y ty,EndsAt (model pw w) s (.call (.ref 177) ⟨[.ref P.aR],[]⟩) p O s' (.ok (.ret (.str y ty)))∧Got P w s t s' t' (whL wh++used)∧y.cps.toList=cs:=by
  have H : ∀ (s1:Shared) (p1:Pos) (O1:List Frame) (y:CX),OutIs O1 y.out→Ready w s1 ((P.in s.heap.objs.size s.toks).led w.params 0 (t.in s.toks)) →
      ∃ s2 t2,EndsAt (model pw w) s1 (tokLoop (s.heap.objs.size+2) s.heap.objs.size) p1 O1 s2 (resB fin t2.tok t2.tt)∧Kept s1 s2 ((P.in s.heap.objs.size s.toks).led w.params 0 (t.in s.toks)).as∧AllAt s2 ((P.in s.heap.objs.size s.toks).led w.params 1 t2 fin) ∧
        t2.i=t.i+((whL wh++used).length:Int)∧t2.ln=t.ln+nlc (whL wh++used)∧t2.tok.cps.toList=cs:=fun s1 p1 O1 y hO1 R1=>by
    obtain ⟨s2,t2,E,T⟩:=outer_ok (P:=P.in s.heap.objs.size s.toks) (p:=p1) hO1 wh hw R1 (n:=n) hi hx hF in_lz
    exact ⟨s2,t2,E,T.kept,T.at',T.i,T.ln,T.tok⟩
  cases fin with
  | false=>exact gettok_of hO (N:=N_gt0) (sh:=1) (fin:=false) (ef:=fun Q i=>i.effP Q w.params) (fun _ _=>rfl) (fun c i=>⟨(gt_0 P w t o c i).1,(gt_0 P w t o c i).2.1,fun _=>(gt_0 P w t o c i).2.2⟩) R H
  | true=>exact gettok_of hO (N:=N_gt1) (sh:=1) (fin:=true) (ef:=fun Q i=>i.effQ Q w.params 1) (fun _ _=>rfl) (fun c i=>⟨(gt_1 P w t o c i).1,(gt_1 P w t o c i).2.1,fun hy=>by
      obtain ⟨u,y,ty,b,k,g⟩:=i
      obtain ⟨e1,e2⟩:=hy rfl
      simp only at e1 e2
      subst e1 e2
      exact (gt_1 P w t o c ⟨u,u.tok,u.tt,b,k,g⟩).2.2⟩) R H
theorem gettok_end {P:RD} {w:World} {o:OP} {O:List Frame} (hO:OutIs O o.out) {t:RS} {s:Shared} {p:Pos} {n:Nat} (R:Ready w s (P.obj w.params t)) (hi:t.i=(n:Int)) (hx:P.x.cps.toList.drop n=[]) :
    ∃ s' t' y ty,EndsAt (model pw w) s (.call (.ref 177) ⟨[.ref P.aR],[]⟩) p O s' (.ok (.ret (.str y ty)))∧Got P w s t s' t' [0]∧y.cps.toList=[]:=by
  refine gettok_of hO (N:=N_gt2) (sh:=0) (fin:=true) (used:=[0]) (ef:=fun Q i=>i.effQ Q w.params 0) (fun _ _=>rfl) (fun c i=>⟨(gt_2 P w t o c i).1,(gt_2 P w t o c i).2.1,fun hy=>by
      obtain ⟨u,y,ty,b,k,g⟩:=i
      obtain ⟨e1,e2⟩:=hy rfl
      simp only at e1 e2
      subst e1 e2
      exact (gt_2 P w t o c ⟨u,u.tok,u.tt,b,k,g⟩).2.2⟩) R (fun s1 p1 O1 y hO1 R1 => ?_)
  have hi' : (t.in s.toks).i=(n:Int):=hi
  have hx' : (P.in s.heap.objs.size s.toks).x.cps.toList.drop n=[]:=hx
  generalize hQ:P.in s.heap.objs.size s.toks=Q at R1 hx'
  generalize hu:t.in s.toks=u at R1 hi'
  have hC:Q.aC=s.heap.objs.size+2:=by rw [← hQ]; rfl
  have hFr:Q.aF=s.heap.objs.size:=by rw [← hQ]; rfl
  have hut:u.tok.cps.toList=[]:=by rw [← hu]; rfl
  have hui:u.i=t.i:=by rw [← hu]; rfl
  have hul:u.ln=t.ln:=by rw [← hu]; rfl
  rw [← hC,← hFr]
  by_cases h:Q.f 13=endTok Q u (gxO s1 (Q.led w.params 0 u) p1)
  · obtain ⟨s',hE,hK,hA⟩:=seg_ret (ids:=lexIds) (r:={exs:=[lexIds],ss:=[S []],alts:=[altY w Q (endTok Q u (gxO s1 (Q.led w.params 0 u) p1)) h]}) (N:=N_oz0Y) (fuel:=800) (p:=p1) R1 hO1 (by decide) (fun y hy=>by
      rcases List.mem_cons.mp hy with rfl | hy
      · exact altY_ok w Q _ h
      · exact nomatch hy) (lx_oz0Y Q w u y (gxO s1 (Q.led w.params 0 u) p1) h) (rd0 _ _ hx' (by rw [hi']))
    exact ⟨s',_,hE,hK,hA,by show u.i+1=t.i+1; lia,by show u.ln=t.ln+0; lia,hut⟩
  · obtain ⟨s',hE,hK,hA⟩:=seg_ret (ids:=lexIds) (r:={exs:=[lexIds],ss:=[S []],alts:=[altN w Q (endTok Q u (gxO s1 (Q.led w.params 0 u) p1)) h]}) (N:=N_oz0N) (fuel:=800) (p:=p1) R1 hO1 (by decide) (fun y hy=>by
      rcases List.mem_cons.mp hy with rfl | hy
      · exact altN_ok w Q _ h
      · exact nomatch hy) (lx_oz0N Q w u y (gxO s1 (Q.led w.params 0 u) p1) h) (rd0 _ _ hx' (by rw [hi']))
    exact ⟨s',_,hE,hK,hA,by show u.i+1=t.i+1; lia,by show u.ln=t.ln+0; lia,hut⟩
end Mine
end
section
open PySem PySem.W PySem.W.X PySem.Calls PyProof.Rows PySem.SeqAt
namespace Mine
theorem iter_ok {w:World} {s:Shared} {p:Pos} {O:List Frame} {stk:Stk} (hO:AtCall p O stk) {W:Str} {t:Nat} (ha:W.cps.all (· < 128)=true) :
    ∃ s',EndsAt (model pw w) s (.call (.builtin "str.__iter__") ⟨[.str W t],[]⟩) p O s' (.ok (.ret (.ref s.heap.objs.size)))∧s' = {s with heap:=s.heap.push ⟨.type "str_ascii_iterator", none, .fields #[.str W t, .int 0 0], #[]⟩}:=by
  obtain ⟨v,s',hE,rfl,h⟩:=lib_call (w:=w) (f:= .builtin "str.__iter__") (args:=[.str W t]) hO (s:=s) (Q:=fun v s' => v = .ref s.heap.objs.size∧s' = {s with heap:=s.heap.push ⟨.type "str_ascii_iterator", none, .fields #[.str W t, .int 0 0], #[]⟩}) (fun A hh _=>by
    refine wpAny_call (codeAny_call_builtin F.slot_str_iter.plain F.entry_str_iter (F.slot_str_iter.check _ _ _ _ _ _ _ _ (typeIs_str s W t) (F.args_str_iter_1 _) ?_))
    show wpAny _ _ (do ret (← newFields (if (true && W.cps.all (· < 128))=true then "str_ascii_iterator" else "str_iterator") [.str W t,rawInt 0])) _ _ s
    rw [ha]
    exact wpAny_bind (wpAny_newObj_type (wpAny_pure ⟨rfl,rfl⟩)))
  exact ⟨s',hE,h⟩
end Mine
end
section
open PySem PySem.W PySem.W.X PySem.Calls PyProof.Rows PySem.SeqAt
namespace Mine
noncomputable def hdT:Bool→Str | true=>S [34,92] | false=>S [34,92,32,9,10]
noncomputable def hidB:Bool→Nat→Bool | true=>hidQ | false=>hidU
theorem inHd_dec : ∀ q:Bool,∀ d<127,inHd (hdT q) d=hidB q (d+1):=by
  decide +kernel
theorem sgC_ok {hd:Str} : ∀ (l:List (Bool × Nat)) (acc:List Prop),(∀ y∈l,inHd hd y.2=y.1)→AllP acc→AllP (sgC hd l acc)
  | [],acc,_,h=>h
  | (b,d) :: l,acc,hb,h=>by
    refine sgC_ok l _ (fun y hy=>hb y (.tail _ hy)) (AllP.app ?_ h)
    have e:=hb (b,d) (.head _)
    cases b with
    | true=>exact AllP.cons (by show 1+1≤16777216; decide) (AllP.cons e .nil)
    | false=>exact AllP.cons e .nil
theorem AllQ.nil {P:Bool × Nat→Prop} : ∀ y∈([]:List (Bool × Nat)),P y:=fun _ h=>nomatch h
theorem AllQ.cons {P:Bool × Nat→Prop} {a:Bool × Nat} {l:List (Bool × Nat)} (h:P a) (t : ∀ y∈l,P y) : ∀ y∈a :: l,P y:=fun y hy=>by
  rcases List.mem_cons.mp hy with rfl | hy
  · exact h
  · exact t y hy
structure SignQ (g:SG) (w:World) (s:Shared) (W:Str) (l:List Str) (s' : Shared) (oI:Obj) (tx:List (Str × Nat)) (n s1 s2 s3:Nat) (sv:Str):Prop where
  kept:Kept s s' (g.led w.params W).as
  at' : AllAt s' [(g.it,oI),(g.acc,listO (tx.map fun x => .str x.1 x.2) n),(g.Z,dictO w.params [(k_sign,s1, .str sv s2)] s3),(g.H,cellO (.str g.hd g.th))]
  tx:tx.map (·.1)=l
inductive sign_join_r (g:SG) (w:World) (O:List Frame) (s:Shared) (p:Pos) (W:Str) (bs:List (Bool × Nat)):Prop
  | mk : ∀ s' oI tx n s1 s2 s3 sv,(EndsAt (model pw w) s (signStart g.it g.acc g.Z g.L g.H) p O s' (.ok .next))→(SignQ g w s W (bs.map fun y=>sgS y.1 y.2) s' oI tx n s1 s2 s3 sv)→sign_join_r g w O s p W bs
theorem sign_join {g:SG} {w:World} {x:SX} {O:List Frame} (hO:OutIs O x.out) {s:Shared} {p:Pos} {W:Str} {bs:List (Bool × Nat)} {N:Nat} {sv:Str} (R:Ready w s (g.led w.params W)) (hb : ∀ y∈bs,inHd g.hd y.2=y.1)
    (F : ∀ c:GX,isRet (g.run w W x c N) (.ok .next) ([(g.it,(g.run w W x c N).ob 0),(g.acc,(g.run w W x c N).lst 1 (bs.map fun y=>sgS y.1 y.2)),(g.Z,dictO w.params [(k_sign,(g.run w W x c N).kt 2 0, .str sv ((g.run w W x c N).dt 2 0))] ((g.run w W x c N).ep 2)),(g.H,cellO (.str g.hd g.th))].map some) (sgC g.hd bs [])):sign_join_r g w O s p W bs:=by
  have hit:s.heap.get? g.it=some (ascO W g.tx 0):=R.at' (g.it,_) (.head _)
  have hself:selfIter (ascO W g.tx 0)=true:=by
    show ["list_iterator", "range_iterator", "tuple_iterator", "str_ascii_iterator"].contains "str_ascii_iterator" = true
    decide
  obtain ⟨p',hC⟩:=comp_redirect (prog:=pw) (w:=w) (s:=s) (e:=sheetC.expr) (d:=0) (acc:= .ref g.acc) (env:=signEnv g.Z g.L g.H) hit hself (by decide +kernel) p O
  obtain ⟨s',hE,hK,hA⟩:=seg_ret (ids:=[0,1,2,3]) (r:={}) (N:=N) (fuel:=800) (p:=p') R hO (by decide) no_alts (F (gxO s (g.led w.params W) p')) (sgC_ok bs [] hb .nil)
  refine ⟨s',(g.run w W x (gxO s (g.led w.params W) p') N).ob 0,((bs.map fun y=>sgS y.1 y.2).zipIdx.map fun y=>(y.1,(g.run w W x (gxO s (g.led w.params W) p') N).dt 1 y.2)),(g.run w W x (gxO s (g.led w.params W) p') N).ep 1,(g.run w W x (gxO s (g.led w.params W) p') N).kt 2 0,(g.run w W x (gxO s (g.led w.params W) p') N).dt 2 0,(g.run w W x (gxO s (g.led w.params W) p') N).ep 2,sv,EndsAt.after hC hE,hK, ?_, ?_⟩
  · intro y hy
    have hl:listO (((bs.map fun y=>sgS y.1 y.2).zipIdx.map fun y=>(y.1,(g.run w W x (gxO s (g.led w.params W) p') N).dt 1 y.2)).map fun x=>Value.str x.1 x.2) ((g.run w W x (gxO s (g.led w.params W) p') N).ep 1)=(g.run w W x (gxO s (g.led w.params W) p') N).lst 1 (bs.map fun y=>sgS y.1 y.2):=by
      unfold Out.lst
      rw [List.map_map]
      rfl
    rw [hl] at hy
    exact hA y hy
  · rw [List.map_map]
    show List.map (fun (x:Str × Nat)=>x.1) (bs.map fun y=>sgS y.1 y.2).zipIdx=_
    exact List.zipIdx_map_fst _ _
theorem flat_sg (q:Bool) : ∀ (bs:List (Bool × Nat)),(∀ y∈bs,y.1=hidB q (y.2+1))→(bs.map fun y=>sgS y.1 y.2).flatMap (fun x=>x.cps.toList)=encL (hidB q) (bs.map fun y=>y.2+1)
  | [],_=>rfl
  | (b,d) :: bs,h=>by
    rw [List.map_cons,List.flatMap_cons,flat_sg q bs fun y hy=>h y (.tail _ hy),List.map_cons]
    show _=encC (hidB q) (d+1)++_
    have e:b=hidB q (d+1):=h (b,d) (.head _)
    unfold encC
    rw [← e]
    cases b <;> rfl
inductive Shape (q:Bool):List Nat→Prop
  | n1 (d0:Nat) (h0:d0<127∧true=hidB q (d0+1)):Shape q [d0+1]
  | n0 (d0:Nat) (h0:d0<127∧false=hidB q (d0+1)):Shape q [d0+1]
  | ra1 (d0 d1 d2 d3 d4 d5 d6 d7 d8 d9:Nat) (h0:d0<127∧false=hidB q (d0+1)) (h1:d1<127∧false=hidB q (d1+1)) (h2:d2<127∧false=hidB q (d2+1)) (h3:d3<127∧false=hidB q (d3+1)) (h4:d4<127∧true=hidB q (d4+1)) (h5:d5<127∧true=hidB q (d5+1)) (h6:d6<127∧true=hidB q (d6+1)) (h7:d7<127∧false=hidB q (d7+1)) (h8:d8<127∧true=hidB q (d8+1)) (h9:d9<127∧false=hidB q (d9+1)):Shape q [d0+1,d1+1,d2+1,d3+1,d4+1,d5+1,d6+1,d7+1,d8+1,d9+1]
  | ra0 (d0 d1 d2 d3 d4 d5 d6 d7 d8 d9:Nat) (h0:d0<127∧false=hidB q (d0+1)) (h1:d1<127∧false=hidB q (d1+1)) (h2:d2<127∧false=hidB q (d2+1)) (h3:d3<127∧false=hidB q (d3+1)) (h4:d4<127∧false=hidB q (d4+1)) (h5:d5<127∧false=hidB q (d5+1)) (h6:d6<127∧false=hidB q (d6+1)) (h7:d7<127∧false=hidB q (d7+1)) (h8:d8<127∧false=hidB q (d8+1)) (h9:d9<127∧false=hidB q (d9+1)):Shape q [d0+1,d1+1,d2+1,d3+1,d4+1,d5+1,d6+1,d7+1,d8+1,d9+1]
  | rb1 (d0 d1 d2 d3 d4 d5 d6 d7 d8 d9 d10:Nat) (h0:d0<127∧false=hidB q (d0+1)) (h1:d1<127∧false=hidB q (d1+1)) (h2:d2<127∧false=hidB q (d2+1)) (h3:d3<127∧false=hidB q (d3+1)) (h4:d4<127∧true=hidB q (d4+1)) (h5:d5<127∧true=hidB q (d5+1)) (h6:d6<127∧true=hidB q (d6+1)) (h7:d7<127∧false=hidB q (d7+1)) (h8:d8<127∧false=hidB q (d8+1)) (h9:d9<127∧true=hidB q (d9+1)) (h10:d10<127∧false=hidB q (d10+1)):Shape q [d0+1,d1+1,d2+1,d3+1,d4+1,d5+1,d6+1,d7+1,d8+1,d9+1,d10+1]
  | rb0 (d0 d1 d2 d3 d4 d5 d6 d7 d8 d9 d10:Nat) (h0:d0<127∧false=hidB q (d0+1)) (h1:d1<127∧false=hidB q (d1+1)) (h2:d2<127∧false=hidB q (d2+1)) (h3:d3<127∧false=hidB q (d3+1)) (h4:d4<127∧false=hidB q (d4+1)) (h5:d5<127∧false=hidB q (d5+1)) (h6:d6<127∧false=hidB q (d6+1)) (h7:d7<127∧false=hidB q (d7+1)) (h8:d8<127∧false=hidB q (d8+1)) (h9:d9<127∧false=hidB q (d9+1)) (h10:d10<127∧false=hidB q (d10+1)):Shape q [d0+1,d1+1,d2+1,d3+1,d4+1,d5+1,d6+1,d7+1,d8+1,d9+1,d10+1]
  | rc1 (d0 d1 d2 d3 d4 d5 d6 d7 d8 d9 d10 d11:Nat) (h0:d0<127∧false=hidB q (d0+1)) (h1:d1<127∧false=hidB q (d1+1)) (h2:d2<127∧false=hidB q (d2+1)) (h3:d3<127∧false=hidB q (d3+1)) (h4:d4<127∧true=hidB q (d4+1)) (h5:d5<127∧true=hidB q (d5+1)) (h6:d6<127∧true=hidB q (d6+1)) (h7:d7<127∧false=hidB q (d7+1)) (h8:d8<127∧false=hidB q (d8+1)) (h9:d9<127∧false=hidB q (d9+1)) (h10:d10<127∧true=hidB q (d10+1)) (h11:d11<127∧false=hidB q (d11+1)):Shape q [d0+1,d1+1,d2+1,d3+1,d4+1,d5+1,d6+1,d7+1,d8+1,d9+1,d10+1,d11+1]
  | rc0 (d0 d1 d2 d3 d4 d5 d6 d7 d8 d9 d10 d11:Nat) (h0:d0<127∧false=hidB q (d0+1)) (h1:d1<127∧false=hidB q (d1+1)) (h2:d2<127∧false=hidB q (d2+1)) (h3:d3<127∧false=hidB q (d3+1)) (h4:d4<127∧false=hidB q (d4+1)) (h5:d5<127∧false=hidB q (d5+1)) (h6:d6<127∧false=hidB q (d6+1)) (h7:d7<127∧false=hidB q (d7+1)) (h8:d8<127∧false=hidB q (d8+1)) (h9:d9<127∧false=hidB q (d9+1)) (h10:d10<127∧false=hidB q (d10+1)) (h11:d11<127∧false=hidB q (d11+1)):Shape q [d0+1,d1+1,d2+1,d3+1,d4+1,d5+1,d6+1,d7+1,d8+1,d9+1,d10+1,d11+1]
inductive sign_ok_r (g:SG) (w:World) (x:SX) (O:List Frame) (s:Shared) (p:Pos) (W:Str) (q:Bool):Prop
  | mk : ∀ s' oI tx n s1 s2 s3 sv l,(EndsAt (model pw w) s (signStart g.it g.acc g.Z g.L g.H) p O s' (.ok .next))→(SignQ g w s W l s' oI tx n s1 s2 s3 sv)→(l.flatMap (fun x=>x.cps.toList)=encL (hidB q) W.cps.toList)→sign_ok_r g w x O s p W q
theorem sign_ok {g:SG} {w:World} {x:SX} {O:List Frame} (hO:OutIs O x.out) {s:Shared} {p:Pos} {W:Str} {q:Bool} (R:Ready w s (g.led w.params W)) (hq:g.hd=hdT q) (hW:Shape q W.cps.toList):sign_ok_r g w x O s p W q:=by
  obtain ⟨cps⟩:=W
  obtain ⟨L⟩:=cps
  have key : ∀ (bs:List (Bool × Nat)),(∀ y∈bs,y.2<127∧y.1=hidB q (y.2+1))→L=bs.map (fun y=>y.2+1)→(∀ y∈bs,inHd g.hd y.2=y.1)∧(bs.map fun y=>sgS y.1 y.2).flatMap (fun x=>x.cps.toList)=encL (hidB q) L:=fun bs h e =>
    ⟨fun y hy=>by rw [hq,inHd_dec q y.2 (h y hy).1,(h y hy).2],by rw [e]; exact flat_sg q bs fun y hy=>(h y hy).2⟩
  have hW' : Shape q L:=hW
  cases hW' with
  | n1 d0 h0 =>
    obtain ⟨k1,k2⟩:=key [(true,d0)] (AllQ.cons h0 AllQ.nil) rfl
    obtain ⟨s',oI,tx,n,s1,s2,s3,sv,E,Q⟩:=sign_join (p:=p) (N:=N_sgn1) (sv:=ch1 d0) hO R k1 (fun c=>sg_n1 g w x c d0)
    exact ⟨s',oI,tx,n,s1,s2,s3,sv,_,E,Q,k2⟩
  | n0 d0 h0 =>
    obtain ⟨k1,k2⟩:=key [(false,d0)] (AllQ.cons h0 AllQ.nil) rfl
    obtain ⟨s',oI,tx,n,s1,s2,s3,sv,E,Q⟩:=sign_join (p:=p) (N:=N_sgn0) (sv:=ch1 d0) hO R k1 (fun c=>sg_n0 g w x c d0)
    exact ⟨s',oI,tx,n,s1,s2,s3,sv,_,E,Q,k2⟩
  | ra1 d0 d1 d2 d3 d4 d5 d6 d7 d8 d9 h0 h1 h2 h3 h4 h5 h6 h7 h8 h9 =>
    obtain ⟨k1,k2⟩:=key [(false,d0),(false,d1),(false,d2),(false,d3),(true,d4),(true,d5),(true,d6),(false,d7),(true,d8),(false,d9)] (AllQ.cons h0 (AllQ.cons h1 (AllQ.cons h2 (AllQ.cons h3 (AllQ.cons h4 (AllQ.cons h5 (AllQ.cons h6 (AllQ.cons h7 (AllQ.cons h8 (AllQ.cons h9 AllQ.nil)))))))))) rfl
    obtain ⟨s',oI,tx,n,s1,s2,s3,sv,E,Q⟩:=sign_join (p:=p) (N:=N_sgra1) (sv:=ch1 d9) hO R k1 (fun c=>sg_ra1 g w x c d0 d1 d2 d3 d4 d5 d6 d7 d8 d9)
    exact ⟨s',oI,tx,n,s1,s2,s3,sv,_,E,Q,k2⟩
  | ra0 d0 d1 d2 d3 d4 d5 d6 d7 d8 d9 h0 h1 h2 h3 h4 h5 h6 h7 h8 h9 =>
    obtain ⟨k1,k2⟩:=key [(false,d0),(false,d1),(false,d2),(false,d3),(false,d4),(false,d5),(false,d6),(false,d7),(false,d8),(false,d9)] (AllQ.cons h0 (AllQ.cons h1 (AllQ.cons h2 (AllQ.cons h3 (AllQ.cons h4 (AllQ.cons h5 (AllQ.cons h6 (AllQ.cons h7 (AllQ.cons h8 (AllQ.cons h9 AllQ.nil)))))))))) rfl
    obtain ⟨s',oI,tx,n,s1,s2,s3,sv,E,Q⟩:=sign_join (p:=p) (N:=N_sgra0) (sv:=ch1 d9) hO R k1 (fun c=>sg_ra0 g w x c d0 d1 d2 d3 d4 d5 d6 d7 d8 d9)
    exact ⟨s',oI,tx,n,s1,s2,s3,sv,_,E,Q,k2⟩
  | rb1 d0 d1 d2 d3 d4 d5 d6 d7 d8 d9 d10 h0 h1 h2 h3 h4 h5 h6 h7 h8 h9 h10 =>
    obtain ⟨k1,k2⟩:=key [(false,d0),(false,d1),(false,d2),(false,d3),(true,d4),(true,d5),(true,d6),(false,d7),(false,d8),(true,d9),(false,d10)] (AllQ.cons h0 (AllQ.cons h1 (AllQ.cons h2 (AllQ.cons h3 (AllQ.cons h4 (AllQ.cons h5 (AllQ.cons h6 (AllQ.cons h7 (AllQ.cons h8 (AllQ.cons h9 (AllQ.cons h10 AllQ.nil))))))))))) rfl
    obtain ⟨s',oI,tx,n,s1,s2,s3,sv,E,Q⟩:=sign_join (p:=p) (N:=N_sgrb1) (sv:=ch1 d10) hO R k1 (fun c=>sg_rb1 g w x c d0 d1 d2 d3 d4 d5 d6 d7 d8 d9 d10)
    exact ⟨s',oI,tx,n,s1,s2,s3,sv,_,E,Q,k2⟩
  | rb0 d0 d1 d2 d3 d4 d5 d6 d7 d8 d9 d10 h0 h1 h2 h3 h4 h5 h6 h7 h8 h9 h10 =>
    obtain ⟨k1,k2⟩:=key [(false,d0),(false,d1),(false,d2),(false,d3),(false,d4),(false,d5),(false,d6),(false,d7),(false,d8),(false,d9),(false,d10)] (AllQ.cons h0 (AllQ.cons h1 (AllQ.cons h2 (AllQ.cons h3 (AllQ.cons h4 (AllQ.cons h5 (AllQ.cons h6 (AllQ.cons h7 (AllQ.cons h8 (AllQ.cons h9 (AllQ.cons h10 AllQ.nil))))))))))) rfl
    obtain ⟨s',oI,tx,n,s1,s2,s3,sv,E,Q⟩:=sign_join (p:=p) (N:=N_sgrb0) (sv:=ch1 d10) hO R k1 (fun c=>sg_rb0 g w x c d0 d1 d2 d3 d4 d5 d6 d7 d8 d9 d10)
    exact ⟨s',oI,tx,n,s1,s2,s3,sv,_,E,Q,k2⟩
  | rc1 d0 d1 d2 d3 d4 d5 d6 d7 d8 d9 d10 d11 h0 h1 h2 h3 h4 h5 h6 h7 h8 h9 h10 h11 =>
    obtain ⟨k1,k2⟩:=key [(false,d0),(false,d1),(false,d2),(false,d3),(true,d4),(true,d5),(true,d6),(false,d7),(false,d8),(false,d9),(true,d10),(false,d11)] (AllQ.cons h0 (AllQ.cons h1 (AllQ.cons h2 (AllQ.cons h3 (AllQ.cons h4 (AllQ.cons h5 (AllQ.cons h6 (AllQ.cons h7 (AllQ.cons h8 (AllQ.cons h9 (AllQ.cons h10 (AllQ.cons h11 AllQ.nil)))))))))))) rfl
    obtain ⟨s',oI,tx,n,s1,s2,s3,sv,E,Q⟩:=sign_join (p:=p) (N:=N_sgrc1) (sv:=ch1 d11) hO R k1 (fun c=>sg_rc1 g w x c d0 d1 d2 d3 d4 d5 d6 d7 d8 d9 d10 d11)
    exact ⟨s',oI,tx,n,s1,s2,s3,sv,_,E,Q,k2⟩
  | rc0 d0 d1 d2 d3 d4 d5 d6 d7 d8 d9 d10 d11 h0 h1 h2 h3 h4 h5 h6 h7 h8 h9 h10 h11 =>
    obtain ⟨k1,k2⟩:=key [(false,d0),(false,d1),(false,d2),(false,d3),(false,d4),(false,d5),(false,d6),(false,d7),(false,d8),(false,d9),(false,d10),(false,d11)] (AllQ.cons h0 (AllQ.cons h1 (AllQ.cons h2 (AllQ.cons h3 (AllQ.cons h4 (AllQ.cons h5 (AllQ.cons h6 (AllQ.cons h7 (AllQ.cons h8 (AllQ.cons h9 (AllQ.cons h10 (AllQ.cons h11 AllQ.nil)))))))))))) rfl
    obtain ⟨s',oI,tx,n,s1,s2,s3,sv,E,Q⟩:=sign_join (p:=p) (N:=N_sgrc0) (sv:=ch1 d11) hO R k1 (fun c=>sg_rc0 g w x c d0 d1 d2 d3 d4 d5 d6 d7 d8 d9 d10 d11)
    exact ⟨s',oI,tx,n,s1,s2,s3,sv,_,E,Q,k2⟩
end Mine
end
section
open PySem PySem.W PySem.W.X PySem.Calls PyProof.Rows PySem.SeqAt
namespace Mine
theorem altsL_ok (g s:Addr) : ∀ (ys:List Int) (a:Int) (t:Nat),(∀ y∈ys,0≤y∧y≤1000000)→0≤a→a+1000000*ys.length≤1000000000 → ∀ x∈altsL g s ys a t,x.1=x.2
  | [],_,_,_,_,_,x,hx=>nomatch hx
  | y :: ys,a,t,hy,ha,hb,x,hx=>by
    obtain ⟨h1,h2⟩:=hy y (.head _)
    rw [List.length_cons] at hb
    rcases List.mem_cons.mp hx with rfl | hx
    · exact altSum_ok g s a y t (t+7) 0 (by lia) (by lia) (by lia) (by lia)
    · exact altsL_ok g s ys (a+y) (t+8) (fun z hz=>hy z (.tail _ hz)) (by lia) (by push_cast at hb ⊢; lia) x hx
theorem alts_ok (a:AP) (w:World) (g s:Addr) (t:Nat) (ps:List PQ) (ys:List Int) (h0) (h1) (hy : ∀ y∈ys,0≤y∧y≤1000000) (ha:0≤a.z) (hb:a.z+1000000*ys.length≤1000000000) : ∀ x∈a.alts w g s t ps ys h0 h1,x.1=x.2:=fun x hx=>by
  rcases List.mem_append.mp hx with hx | hx
  · exact altsL_ok g s ys a.z t hy ha hb x hx
  · rcases List.mem_cons.mp hx with rfl | hx
    · exact altLen_ok w _ _ _ _ _ _ h0 h1
    · exact nomatch hx
theorem lenCS_ok : ∀ (ps:List PQ) (l:List Prop),(∀ z∈ps,z.w.length≤1000∧z.n.length≤1000)→AllP l→AllP (lenCS ps (ps.map PQ.sz) l)
  | [],l,_,h=>h
  | z :: ps,l,hz,h=>by
    obtain ⟨h1,h2⟩:=hz z (.head _)
    exact lenCS_ok ps _ (fun y hy=>hz y (.tail _ hy)) (AllP.cons rfl (AllP.cons (by lia) (AllP.cons (by lia) h)))
theorem sumY_bounds : ∀ (ys:List Int) (z:Int),(∀ y∈ys,0≤y∧y≤1000000)→0≤z→z≤sumY z ys∧sumY z ys≤z+1000000*ys.length
  | [],z,_,hz=>⟨Int.le_refl _,by simp [sumY]⟩
  | y :: ys,z,hy,hz=>by
    obtain ⟨h1,h2⟩:=hy y (.head _)
    obtain ⟨h3,h4⟩:=sumY_bounds ys (z+y) (fun x hx=>hy x (.tail _ hx)) (by lia)
    have e:sumY z (y :: ys)=sumY (z+y) ys:=rfl
    rw [e,List.length_cons]
    push_cast
    omega
theorem len_join {w:World} {a:AP} {ps:List PQ} {tab tab' : Addr × Obj} {s:Shared} {p:Pos} {O:List Frame} {ol:Stk} {G S T K N:Nat} {ids:List Nat} (R:Ready w s (a.lenL w.params tab ps)) (hO:OutIs O ol) (nd:ids.Nodup)
    (hz : ∀ z∈ps,z.w.length≤1000∧z.n.length≤1000) (hn:ps.length≤8) (ha:0≤a.z∧a.z≤1000)
    (F : ∀ h0 h1,isRet (a.lenRun w tab ps (ps.map PQ.sz) ol (ghO s (a.lenL w.params tab ps)) s.heap.objs.size s.toks s.gens.size p G S T h0 h1 ids N) (.ok (.ret (.int (sumY a.z (ps.map PQ.sz)) (s.toks+K)))) ((a.lenL w.params tab' ps).map some) (lenCS ps (ps.map PQ.sz) [])) :
    ∃ s',EndsAt (model pw w) s (.call (.builtin "len") ⟨[.ref a.aP],[]⟩) p O s' (.ok (.ret (.int (sumY a.z (ps.map PQ.sz)) (s.toks+K))))∧Kept s s' (a.lenL w.params tab ps).as∧AllAt s' (a.lenL w.params tab' ps):=by
  have hy : ∀ y∈ps.map PQ.sz,0≤y∧y≤1000000:=fun y hy=>by
    obtain ⟨z,hz',rfl⟩:=List.mem_map.mp hy
    obtain ⟨h1,h2⟩:=hz z hz'
    show 0≤(z.w.length:Int)+(z.n.length:Int)∧(z.w.length:Int)+(z.n.length:Int)≤1000000
    omega
  have hb:=sumY_bounds (ps.map PQ.sz) a.z hy ha.1
  rw [List.length_map] at hb
  have h0 : ¬ sumY a.z (ps.map PQ.sz)<0:=by omega
  have h1 : ¬ sumY a.z (ps.map PQ.sz) ≥ 2 ^ 63:=by omega
  exact seg_ret (ids:=ids) (N:=N) (fuel:=1200) (r:={alts:=a.alts w (s.heap.objs.size+G) (s.heap.objs.size+S) (s.toks+T) ps (ps.map PQ.sz) h0 h1,zs:=ps.map PQ.sz}) R hO nd
    (alts_ok a w _ _ _ ps _ h0 h1 hy ha.1 (by rw [List.length_map]; omega)) (F h0 h1) (lenCS_ok ps [] hz .nil)
theorem len_ok {w:World} {a:AP} {ps:List PQ} {ac:Addr} {s:Shared} {p:Pos} {O:List Frame} {b:List Stmt} {e:PySem.Env} {pf:Pos} {o:OP} (R:Ready w s (a.lenL w.params (tab63 ac) ps)) (hO:OutIs O (outFn b e pf o))
    (hz : ∀ z∈ps,z.w.length≤1000∧z.n.length≤1000) (hn:ps.length≤4) (ha:a.z=0∨a.z=9) :
    ∃ r s',EndsAt (model pw w) s (.call (.builtin "len") ⟨[.ref a.aP],[]⟩) p O s' r∧Kept s s' [] ∧ ∃ t,r = .ok (.ret (.int (sumY a.z (ps.map PQ.sz)) t)):=by
  have H : ∃ s' K,EndsAt (model pw w) s (.call (.builtin "len") ⟨[.ref a.aP],[]⟩) p O s' (.ok (.ret (.int (sumY a.z (ps.map PQ.sz)) (s.toks+K))))∧Kept s s' (a.lenL w.params (tab63 ac) ps).as∧AllAt s' (a.lenL w.params (tab63 ac) ps):=by
    obtain ⟨n,aD,xs,eP,z,k0,k1,eD⟩:=a
    simp only at ha
    rcases ha with rfl | rfl
    · match ps,R,hz,hn with
      | [],R,hz,hn=>obtain ⟨s',h⟩:=len_join (p:=p) R hO (by decide) hz (by decide) (show (0:Int)≤0∧(0:Int)≤1000 by decide) (fun h0 h1=>len_0_0 w ⟨n,aD,xs,eP,0,k0,k1,eD⟩ ac b e pf o (ghO s _) _ _ _ p h0 h1); exact ⟨s',_,h⟩
      | [z0],R,hz,hn=>obtain ⟨s',h⟩:=len_join (p:=p) R hO (by decide) hz (by simp) (show (0:Int)≤0∧(0:Int)≤1000 by decide) (fun h0 h1=>len_0_1 w ⟨n,aD,xs,eP,0,k0,k1,eD⟩ z0 z0.sz ac b e pf o (ghO s _) _ _ _ p h0 h1); exact ⟨s',_,h⟩
      | [z0,z1],R,hz,hn=>obtain ⟨s',h⟩:=len_join (p:=p) R hO (by decide) hz (by simp) (show (0:Int)≤0∧(0:Int)≤1000 by decide) (fun h0 h1=>len_0_2 w ⟨n,aD,xs,eP,0,k0,k1,eD⟩ z0 z1 z0.sz z1.sz ac b e pf o (ghO s _) _ _ _ p h0 h1); exact ⟨s',_,h⟩
      | [z0,z1,z2],R,hz,hn=>obtain ⟨s',h⟩:=len_join (p:=p) R hO (by decide) hz (by simp) (show (0:Int)≤0∧(0:Int)≤1000 by decide) (fun h0 h1=>len_0_3 w ⟨n,aD,xs,eP,0,k0,k1,eD⟩ z0 z1 z2 z0.sz z1.sz z2.sz ac b e pf o (ghO s _) _ _ _ p h0 h1); exact ⟨s',_,h⟩
      | [z0,z1,z2,z3],R,hz,hn=>obtain ⟨s',h⟩:=len_join (p:=p) R hO (by decide) hz (by simp) (show (0:Int)≤0∧(0:Int)≤1000 by decide) (fun h0 h1=>len_0_4 w ⟨n,aD,xs,eP,0,k0,k1,eD⟩ z0 z1 z2 z3 z0.sz z1.sz z2.sz z3.sz ac b e pf o (ghO s _) _ _ _ p h0 h1); exact ⟨s',_,h⟩
      | _ :: _ :: _ :: _ :: _ :: l,R,hz,hn=>exact absurd hn (by simp)
    · match ps,R,hz,hn with
      | [],R,hz,hn=>obtain ⟨s',h⟩:=len_join (p:=p) R hO (by decide) hz (by decide) (show (0:Int)≤9∧(9:Int)≤1000 by decide) (fun h0 h1=>len_9_0 w ⟨n,aD,xs,eP,9,k0,k1,eD⟩ ac b e pf o (ghO s _) _ _ _ p h0 h1); exact ⟨s',_,h⟩
      | [z0],R,hz,hn=>obtain ⟨s',h⟩:=len_join (p:=p) R hO (by decide) hz (by simp) (show (0:Int)≤9∧(9:Int)≤1000 by decide) (fun h0 h1=>len_9_1 w ⟨n,aD,xs,eP,9,k0,k1,eD⟩ z0 z0.sz ac b e pf o (ghO s _) _ _ _ p h0 h1); exact ⟨s',_,h⟩
      | [z0,z1],R,hz,hn=>obtain ⟨s',h⟩:=len_join (p:=p) R hO (by decide) hz (by simp) (show (0:Int)≤9∧(9:Int)≤1000 by decide) (fun h0 h1=>len_9_2 w ⟨n,aD,xs,eP,9,k0,k1,eD⟩ z0 z1 z0.sz z1.sz ac b e pf o (ghO s _) _ _ _ p h0 h1); exact ⟨s',_,h⟩
      | [z0,z1,z2],R,hz,hn=>obtain ⟨s',h⟩:=len_join (p:=p) R hO (by decide) hz (by simp) (show (0:Int)≤9∧(9:Int)≤1000 by decide) (fun h0 h1=>len_9_3 w ⟨n,aD,xs,eP,9,k0,k1,eD⟩ z0 z1 z2 z0.sz z1.sz z2.sz ac b e pf o (ghO s _) _ _ _ p h0 h1); exact ⟨s',_,h⟩
      | [z0,z1,z2,z3],R,hz,hn=>obtain ⟨s',h⟩:=len_join (p:=p) R hO (by decide) hz (by simp) (show (0:Int)≤9∧(9:Int)≤1000 by decide) (fun h0 h1=>len_9_4 w ⟨n,aD,xs,eP,9,k0,k1,eD⟩ z0 z1 z2 z3 z0.sz z1.sz z2.sz z3.sz ac b e pf o (ghO s _) _ _ _ p h0 h1); exact ⟨s',_,h⟩
      | _ :: _ :: _ :: _ :: _ :: l,R,hz,hn=>exact absurd hn (by simp)
  obtain ⟨s',K,hE,hK,hA⟩:=H
  exact ⟨_,s',hE,hK.same R.at' hA,_,rfl⟩
end Mine
end
section
open PySem PySem.W PySem.W.X PySem.Calls PyProof.Rows PySem.SeqAt
namespace Mine
theorem pc_fn (w:World) (a:AP) (b:List Stmt) (e:PySem.Env) (pf:Pos) (q:OP) (g:Gh) (base tk gb:Nat) (p:Pos) :
    isRet (pcRun w a (outFn b e pf q) g base tk gb p) (.ok (.ret (.int (Int.ofNat a.xs.length) (tk+2)))) ((a.led w.params).map some) []:=by
  kernel_rfl
theorem foldl_app : ∀ (l:List Str) (acc:Array Nat),(l.foldl (fun acc p=>acc++(S []).cps++p.cps) acc).toList=acc.toList++l.flatMap (fun x=>x.cps.toList)
  | [],acc=>by simp
  | x :: l,acc=>by
    rw [List.foldl_cons,foldl_app l,List.flatMap_cons]
    have:(S []).cps = #[]:=rfl
    rw [this]
    simp
theorem glued_list : ∀ (l:List Str),(Builtin.Str.glued (S []) l).cps.toList=l.flatMap (fun x=>x.cps.toList)
  | []=>rfl
  | x :: l=>by
    show ((l.foldl (fun acc p=>acc++(S []).cps++p.cps) x.cps)).toList=_
    rw [foldl_app,List.flatMap_cons]
theorem jn_list : ∀ (l:List Str),(jn l).cps.toList=l.flatMap (fun x=>x.cps.toList)
  | []=>rfl
  | [x]=>by simp [jn]
  | x :: y :: l=>glued_list (x :: y :: l)
theorem fold_len : ∀ (l:List Str) (a:Nat),l.foldl (fun a x=>a+x.length+(S []).length) a=a+(l.map Str.length).sum
  | [],a=>by simp
  | x :: l,a=>by
    rw [List.foldl_cons,fold_len l,List.map_cons,List.sum_cons]
    have:(S []).length=0:=rfl
    lia
theorem sum_flat : ∀ (l:List Str),(l.map Str.length).sum=(l.flatMap (fun x=>x.cps.toList)).length
  | []=>rfl
  | x :: l=>by rw [List.map_cons,List.sum_cons,sum_flat l,List.flatMap_cons,List.length_append,str_len]
theorem pcT1_list {z:PQ} (h : ∃ c,z.n=⟨#[c]⟩):(pcT1 z).cps.toList=List.replicate z.w.length z.c:=by
  obtain ⟨c,hc⟩:=h
  unfold pcT1 PQ.c
  rw [hc,rep_one]
  rfl
theorem parts_flat : ∀ (ps:List PQ),(∀ z∈ps,∃ c,z.n=⟨#[c]⟩)→((ps.reverse.map pcT1).flatMap (fun x=>x.cps.toList))=ownL ps
  | [],_=>rfl
  | z :: ps,h=>by
    rw [List.reverse_cons,List.map_append,List.flatMap_append,parts_flat ps fun y hy=>h y (.tail _ hy)]
    show _=ownL ps++_
    rw [List.map_cons,List.map_nil,List.flatMap_cons,List.flatMap_nil,List.append_nil,pcT1_list (h z (.head _))]
theorem cPc_ok : ∀ (zs:List PQ) (l:List Prop),(∀ z∈zs,z.w.length≤30∧z.n.length=1)→AllP l→AllP (cPc zs l)
  | [],l,_,h=>h
  | z :: zs,l,hz,h=>by
    obtain ⟨h1,h2⟩:=hz z (.head _)
    refine cPc_ok zs _ (fun y hy=>hz y (.tail _ hy)) (AllP.app ?_ (AllP.app ?_ h))
    · exact AllP.cons (by show (Int.ofNat z.w.length).natAbs≤1000; simp; lia) (AllP.cons (by lia) .nil)
    · exact AllP.cons (by lia) .nil
theorem cTail1_ok {own:Str} {ps:List PQ} (ho:own.cps.toList=ownL ps) (hn : ∀ z∈ps,∃ c,z.n=⟨#[c]⟩) (hw : ∀ z∈ps,z.w.length≤30) (hp:ps.length≤4):AllP (cTail1 own ps.reverse):=by
  have e:(jn (ps.reverse.map pcT1)).cps.toList=ownL ps:=by rw [jn_list,parts_flat ps hn]
  have hl:=ownL_len ps hw
  refine AllP.cons ?_ (AllP.cons ?_ (AllP.cons ?_ (cPc_ok _ _ (fun z hz => ?_) .nil)))
  · rw [e,ho]; simp
  · rw [str_len,e]; lia
  · refine tooLong_of ?_
    rw [← Array.foldl_toList]
    show List.foldl (fun (a:Nat) (x:Str)=>a+x.length+(S []).length) 0 (ps.reverse.map pcT1)≤_
    rw [fold_len,sum_flat,parts_flat ps hn]
    lia
  · have hz' :=List.mem_reverse.mp hz
    obtain ⟨c,hc⟩:=hn z hz'
    exact ⟨hw z hz',by rw [hc]; rfl⟩
theorem sumY_eq : ∀ (ys:List Int) (z:Int),sumY z ys=z+ys.sum
  | [],z=>by simp [sumY]
  | y :: ys,z=>by
    have:sumY z (y :: ys)=sumY (z+y) ys:=rfl
    rw [this,sumY_eq ys,List.sum_cons]; lia
theorem sz_sum : ∀ (ps:List PQ),(∀ z∈ps,∃ c,z.n=⟨#[c]⟩)→(ps.map PQ.sz).sum=((ownL ps).length:Int)+ps.length
  | [],_=>rfl
  | z :: ps,h=>by
    obtain ⟨c,hc⟩:=h z (.head _)
    rw [List.map_cons,List.sum_cons,sz_sum ps fun y hy=>h y (.tail _ hy)]
    have:z.sz=(z.w.length:Int)+1:=by show (z.w.length:Int)+(z.n.length:Int)=_; rw [hc]; rfl
    rw [this]
    simp only [ownL,List.length_append,List.length_replicate,List.length_cons]
    push_cast
    lia
theorem sum_reverse : ∀ (l:List Int),l.reverse.sum=l.sum
  | []=>rfl
  | x :: l=>by rw [List.reverse_cons,List.sum_append,sum_reverse l]; simp; lia
structure LeftQ (P:LP) (w:World) (s:Shared) (eP:Nat) (ac:Addr) (own:Str) (r:Result) (s' : Shared):Prop where
  res : ∃ t,r = .ok (.ret (.int (Int.ofNat own.length) t))
  kept:Kept s s' (P.call w.params eP ac).as
  at' : ∃ eP' tz',AllAt s' (LP.call {P with z:=0,tz:=tz' } w.params eP' ac)
theorem partsL_as (ps:List PQ):Led.as (ps.flatMap PQ.led)=ps.map (·.a):=by
  induction ps with
  | nil=>rfl
  | cons z ps ih=>rw [List.flatMap_cons,List.map_cons]; show z.a :: _=_; rw [← ih]; rfl
theorem left_tail {P:LP} {w:World} {s:Shared} {eP:Nat} {ac:Addr} {t:LS} {ps:List PQ} {o:OP} {c:GX} {r:Ora} {ids:List Nat} {o1:Out} (R:Ready w s (P.call w.params eP ac)) (hz:P.z=0∨P.z=9) (hsz:P.sz=P.z)
    (ho:t.own.cps.toList=ownL ps) (hn : ∀ z∈ps,∃ c,z.n=⟨#[c]⟩) (hw : ∀ z∈ps,z.w.length≤30) (hp:ps.length≤4) (F:LwT P w ac t.own t.eP ps.reverse o c o1) :
    OutOk (Vk w o.out ids (ghO s (P.call w.params eP ac)) r) (fun x s' => match x with | .inl r=>LeftQ P w s eP ac t.own r s' | .inr _=>False) o1:=by
  have hol:t.own.length=(ownL ps).length:=by rw [str_len,ho]
  have hll:=ownL_len ps hw
  refine ok_pcutR (R:=fun r => ∃ q,r = .ok (.ret (.int (sumY P.z (ps.reverse.map PQ.sz)) q))) F.h1 (cTail1_ok ho hn hw hp) (fun s1 p1 O1 R1 hO1 => ?_) (fun r b k g hr => ?_)
  · exact len_ok R1 (hO1.outIs F.k1) (fun z hz' => by
      obtain ⟨c,hc⟩:=hn z (List.mem_reverse.mp hz')
      have:=hw z (List.mem_reverse.mp hz')
      exact ⟨by lia,by rw [hc]; show 1≤1000; decide⟩) (by rw [List.length_reverse]; exact hp) hz
  · obtain ⟨q,rfl⟩:=hr
    refine ok_pcutR (L:=AP.led {P.apz t.eP with xs:=refsOf ps.reverse} w.params) (R:=fun r => ∃ q,r = .ok (.ret (.int (Int.ofNat (refsOf ps.reverse).length) q))) (F.h2 ⟨sumY P.z (ps.reverse.map PQ.sz),q,b,k,g⟩) no_cond (fun s1 p1 O1 R1 hO1 => ?_) (fun r b2 k2 g2 hr => ?_)
    · have G:=pc_fn w {P.apz t.eP with xs:=refsOf ps.reverse} leftD.b (leftEnv c.base) (o1.rest (X.eff ⟨sumY P.z (ps.reverse.map PQ.sz),q,b,k,g⟩)).sp2 o (ghO s1 (AP.led {P.apz t.eP with xs:=refsOf ps.reverse} w.params)) s1.heap.objs.size s1.toks s1.gens.size p1
      exact pc_of (a:={P.apz t.eP with xs:=refsOf ps.reverse}) R1 (hO1.outIs (F.k2 ⟨sumY P.z (ps.reverse.map PQ.sz),q,b,k,g⟩)) G
    · obtain ⟨q2,rfl⟩:=hr
      refine ok_ret (F.h3 ⟨sumY P.z (ps.reverse.map PQ.sz),q,b,k,g⟩ ⟨Int.ofNat (refsOf ps.reverse).length,q2,b2,k2,g2⟩) ?_ (fun s' _ _ _ gb P' hb=>⟨⟨_,rfl⟩,kept_of R.starts P' hb,_,_,all_of P'⟩)
      refine AllP.app ?_ (AllP.cons ?_ ?_)
      · exact AllP.cons (by lia) .nil
      · show ((sumY P.z (ps.reverse.map PQ.sz) - Int.ofNat (refsOf ps.reverse).length) != Int.ofNat t.own.length+P.sz)=false
        have e1:(refsOf ps.reverse).length=ps.length:=by simp [refsOf]
        rw [e1,sumY_eq,List.map_reverse,sum_reverse,sz_sum ps hn,hsz,hol]
        simp only [bne_eq_false_iff_eq]
        show P.z+(((ownL ps).length:Int)+(ps.length:Int)) - (ps.length:Int)=((ownL ps).length:Int)+P.z
        lia
      · exact AllP.cons (by lia) .nil
end Mine
end
section
open PySem PySem.W PySem.W.X PySem.Calls PyProof.Rows PySem.SeqAt
namespace Mine
theorem joined_list (l:List (Str × Nat)):(joined (S []) l).cps.toList=(l.map (·.1)).flatMap (fun x=>x.cps.toList):=by
  match l with
  | []=>rfl
  | [p]=>simp [joined]
  | p :: q :: r =>
    show (Builtin.Str.glued (S []) ((p :: q :: r).map (·.1))).cps.toList=_
    rw [glued_list]
inductive call_join_r (w:World) (s:Shared) (p:Pos) (O:List Frame) (a:Addr) (t:Nat) (l:List (Str × Nat)):Prop
  | mk : ∀ s' J tJ,(EndsAt (model pw w) s (.call (.builtin "str.join") ⟨[.str (S []) t, .ref a],[]⟩) p O s' (.ok (.ret (.str J tJ))))→(Kept s s' [])→(J.cps.toList=(l.map (·.1)).flatMap (fun x=>x.cps.toList))→call_join_r w s p O a t l
theorem call_join {w:World} {s:Shared} {p:Pos} {O:List Frame} {stk:Stk} (hO:AtCall p O stk) {a:Addr} {t n:Nat} {l:List (Str × Nat)} (hl:s.heap.get? a=some (listO (l.map fun x => .str x.1 x.2) n)) (hs:((l.map (·.1)).flatMap (fun x=>x.cps.toList)).length≤1000):call_join_r w s p O a t l:=by
  have hj:(joined (S []) l).length≤16777216:=by rw [str_len,joined_list]; lia
  have ht:Builtin.Str.tooLong ((l.map (·.1)).toArray.foldl (· + ·.length+(S []).length) 0)=false:=by
    refine tooLong_of ?_
    rw [← Array.foldl_toList]
    show List.foldl (fun (a:Nat) (x:Str)=>a+x.length+(S []).length) 0 (l.map (·.1))≤_
    rw [fold_len,sum_flat]
    lia
  obtain ⟨v,s',hE,rfl,rfl⟩:=lib_call (w:=w) (f:= .builtin "str.join") (args:=[.str (S []) t, .ref a]) hO (s:=s) (Q:=fun v s' => v = .str (joined (S []) l) (joinTok l s.toks)∧s' = {s with toks:=joinTk l s.toks}) (fun A hh _ =>
    call_meets F.slot_str_join (typeIs_str s (S []) t) F.entry_str_join (F.args_str_join_2 _ _) (meets_str_join_list (S []) t a l ht) ⟨⟨_,hl,rfl,n,rfl⟩,join_post l hj ⟨rfl,rfl⟩⟩)
  exact ⟨_,_,_,hE,⟨fun b o e _=>e,Nat.le_refl _,fun h=>h,rfl,rfl⟩,joined_list l⟩
theorem Kept.push {s:Shared} {o:Obj}:Kept s {s with heap:=s.heap.push o} []:=⟨fun b x e _=>Heap.get?_push_of_some _ e,by show _≤(s.heap.push o).objs.size; rw [Heap.size_push]; exact Nat.le_succ _,fun h=>h,rfl,rfl⟩
end Mine
end
section
open PySem PySem.W PySem.W.X PySem.Calls PyProof.Rows PySem.SeqAt
namespace Mine
theorem encL_len (h:Nat→Bool) : ∀ l:List Nat,(encL h l).length≤2*l.length
  | []=>Nat.le_refl _
  | c :: l=>by
    have:=encL_len h l
    show (encC h c++encL h l).length≤_
    rw [List.length_append,List.length_cons]
    have h2:(encC h c).length≤2:=by unfold encC; split <;> simp
    lia
theorem sgs_nil:(∀ c∈([]:List Nat),c<128)∧([]:List Nat).length≤0:=⟨fun _ h=>(nomatch h),Nat.le_refl _⟩
theorem sgs_cons {d n:Nat} {p:Prop} {l:List Nat} (h:d<127∧p) (k:(∀ c∈l,c<128)∧l.length≤n):(∀ c∈(d+1) :: l,c<128)∧((d+1) :: l).length≤n+1:=
  ⟨fun c hc=>(List.mem_cons.mp hc).elim (fun e=>e ▸ Nat.succ_lt_succ h.1) (k.1 c),Nat.succ_le_succ k.2⟩
theorem sgs_le {m n:Nat} {l:List Nat} (k:(∀ c∈l,c<128)∧l.length≤n) (h:n≤m):(∀ c∈l,c<128)∧l.length≤m:=⟨k.1,Nat.le_trans k.2 h⟩
theorem shape_all {q:Bool} {L:List Nat} (h:Shape q L):(∀ c∈L,c<128)∧L.length≤12:=by
  cases h with
  | n1 _ h0=>exact sgs_le (sgs_cons h0 sgs_nil) (Nat.le_of_ble_eq_true rfl)
  | n0 _ h0=>exact sgs_le (sgs_cons h0 sgs_nil) (Nat.le_of_ble_eq_true rfl)
  | ra1 _ _ _ _ _ _ _ _ _ _ h0 h1 h2 h3 h4 h5 h6 h7 h8 h9=>exact sgs_le (sgs_cons h0 (sgs_cons h1 (sgs_cons h2 (sgs_cons h3 (sgs_cons h4 (sgs_cons h5 (sgs_cons h6 (sgs_cons h7 (sgs_cons h8 (sgs_cons h9 sgs_nil)))))))))) (Nat.le_of_ble_eq_true rfl)
  | ra0 _ _ _ _ _ _ _ _ _ _ h0 h1 h2 h3 h4 h5 h6 h7 h8 h9=>exact sgs_le (sgs_cons h0 (sgs_cons h1 (sgs_cons h2 (sgs_cons h3 (sgs_cons h4 (sgs_cons h5 (sgs_cons h6 (sgs_cons h7 (sgs_cons h8 (sgs_cons h9 sgs_nil)))))))))) (Nat.le_of_ble_eq_true rfl)
  | rb1 _ _ _ _ _ _ _ _ _ _ _ h0 h1 h2 h3 h4 h5 h6 h7 h8 h9 h10=>exact sgs_le (sgs_cons h0 (sgs_cons h1 (sgs_cons h2 (sgs_cons h3 (sgs_cons h4 (sgs_cons h5 (sgs_cons h6 (sgs_cons h7 (sgs_cons h8 (sgs_cons h9 (sgs_cons h10 sgs_nil))))))))))) (Nat.le_of_ble_eq_true rfl)
  | rb0 _ _ _ _ _ _ _ _ _ _ _ h0 h1 h2 h3 h4 h5 h6 h7 h8 h9 h10=>exact sgs_le (sgs_cons h0 (sgs_cons h1 (sgs_cons h2 (sgs_cons h3 (sgs_cons h4 (sgs_cons h5 (sgs_cons h6 (sgs_cons h7 (sgs_cons h8 (sgs_cons h9 (sgs_cons h10 sgs_nil))))))))))) (Nat.le_of_ble_eq_true rfl)
  | rc1 _ _ _ _ _ _ _ _ _ _ _ _ h0 h1 h2 h3 h4 h5 h6 h7 h8 h9 h10 h11=>exact sgs_le (sgs_cons h0 (sgs_cons h1 (sgs_cons h2 (sgs_cons h3 (sgs_cons h4 (sgs_cons h5 (sgs_cons h6 (sgs_cons h7 (sgs_cons h8 (sgs_cons h9 (sgs_cons h10 (sgs_cons h11 sgs_nil)))))))))))) (Nat.le_of_ble_eq_true rfl)
  | rc0 _ _ _ _ _ _ _ _ _ _ _ _ h0 h1 h2 h3 h4 h5 h6 h7 h8 h9 h10 h11=>exact sgs_le (sgs_cons h0 (sgs_cons h1 (sgs_cons h2 (sgs_cons h3 (sgs_cons h4 (sgs_cons h5 (sgs_cons h6 (sgs_cons h7 (sgs_cons h8 (sgs_cons h9 (sgs_cons h10 (sgs_cons h11 sgs_nil)))))))))))) (Nat.le_of_ble_eq_true rfl)
theorem wdOf_len (q:Bool) (J:Str):(wdOf q J).length≤J.length+2:=by
  cases q with
  | true=>show ((S [34]++J)++S [34]).length≤_; show (((#[34]:Array Nat)++J.cps) ++ #[34]).size≤J.cps.size+2; simp; lia
  | false=>exact Nat.le_add_right _ _
theorem app_len (x y:Str):(x++y).length=x.length+y.length:=by show (x.cps++y.cps).size=_; exact Array.size_append
structure ShQ (P:HP) (w:World) (s:Shared) (sh:Nat) (t:HS) (b:Bool) (v:Int) (r:Nat) (q:Bool) (wh:Str) (W:List Nat) (s' : Shared) (T' : HS) (a:Addr) (J:Str) (tw td:Nat):Prop where
  kept:Kept s s' (P.led w.params sh t b v (Int.ofNat (r+1))).as
  at' : AllAt s' (P.led w.params 1 T' q (v+1) (Int.ofNat r)++[(a,tupO [.str wh tw, .str (wdOf q J) td] 0)])
  lo:s.heap.objs.size≤a
  text:T'.text=t.text++(wh++wdOf q J)
  xs:T'.xs=t.xs++[.ref a]
  J:J.cps.toList=encL (hidB q) W
  shut:T'.shut=q
inductive shturn_of_r (P:HP) (w:World) (O:List Frame) (sh:Nat) (t:HS) (b:Bool) (q:Bool) (v:Int) (r:Nat) (W:Str) (wh:Str) (s:Shared) (p:Pos):Prop
  | mk : ∀ s' p' T' a J tw td,(Comes (model pw w) s ⟨(model pw w).den (sheetLoop P.aI P.aF P.aH),sheetLoop P.aI P.aF P.aH,p,O⟩ s' ⟨(model pw w).den (sheetLoop P.aI P.aF P.aH),sheetLoop P.aI P.aF P.aH,p',O⟩)→(ShQ P w s sh t b v r q wh W.cps.toList s' T' a J tw td)→shturn_of_r P w O sh t b q v r W wh s p
set_option maxHeartbeats 1000000 in
theorem shturn_of {P:HP} {w:World} {x:FX} {O:List Frame} (hO:OutIs O x.out) {sh N d:Nat} {t:HS} {b q:Bool} {v X:Int} {r tX tW:Nat} {W wh:Str} {CS0:List Prop} {s:Shared} {p:Pos}
    (F : ∀ (c:GX) (e:HE),ShS P w x t q v r W tW wh CS0 (P.runX w sh t b v r X tX W tW d x c N) e)
    (R:Ready w s (P.led w.params sh t b v (Int.ofNat (r+1)))) (hCS:AllP CS0) (hW:Shape q W.cps.toList) (hxl:t.xs.length≤100) (htl:t.text.length≤5000) (hwl:wh.length≤1):shturn_of_r P w O sh t b q v r W wh s p:=by
  obtain ⟨hall,hlen⟩:=shape_all hW
  have ha:W.cps.all (· < 128)=true:=by
    rw [← Array.all_toList]
    exact List.all_eq_true.mpr fun c hc=>decide_eq_true (hall c hc)
  have F:=F (gxO s (P.led w.params sh t b v (Int.ofNat (r+1))) p)
  obtain ⟨s',p',hC,T',a,J,tw,td,hQ⟩:=seg_turn (N:=N) (fuel:=800) (p:=p) (ids:=[0,1,2,3,4,5,6,11]) (r:={exs:=[[],[7,8,9,2],[8]],vs:=[.int X tX, .str W tW],cs:=[d]}) (L:=P.led w.params sh t b v (Int.ofNat (r+1)))
    (P:=fun s' => ∃ T' a J tw td,ShQ P w s sh t b v r q wh W.cps.toList s' T' a J tw td) (c' :=sheetLoop P.aI P.aF P.aH) R hO (by decide) no_alts
    (ok_cut (F e00).a hCS (fun s1 p1 O1 base off tk Ps hb hO1=>by
      have hle1:s.heap.objs.size≤s1.heap.objs.size:=by
        obtain ⟨_,_,P1⟩:=Ps
        have h4:=P1.le
        rw [P1.size]
        exact h4
      obtain ⟨s2,hE,rfl⟩:=iter_ok (w:=w) hO1 (W:=W) (t:=tW) ha
      have hsz:(s1.heap.push ⟨.type "str_ascii_iterator", none, .fields #[.str W tW, .int 0 0], #[]⟩).objs.size=s1.heap.objs.size+1:=Heap.size_push ..
      let E1:HE:={e00 with a0:=s1.heap.objs.size,b0:=s1.heap.objs.size+1,k0:=s1.toks,g0:=s1.gens.size}
      refine ⟨E1.e0 W tW,_,hE, ?_, ?_⟩
      · have z:=eff_of (s:=s1) (s' :={s1 with heap:=s1.heap.push ⟨.type "str_ascii_iterator", none, .fields #[.str W tW, .int 0 0], #[]⟩}) (r:= .ok (.ret (.ref s1.heap.objs.size))) (ix:=[]) (F:=[]) (news:=[(s1.heap.objs.size,ascO W tW 0)]) Kept.push (fun _ h=>nomatch h)
          (fun y hy=>by
            rcases List.mem_cons.mp hy with rfl | hy
            · exact Heap.get?_push_size _ rfl
            · exact nomatch hy) (fun y hy=>by
            rcases List.mem_cons.mp hy with rfl | hy
            · exact Nat.le_refl _
            · exact nomatch hy) (by simp [Led.as]) List.nodup_nil rfl
        simp only [hsz] at z
        exact z
      refine ok_cutR (F E1).b no_cond (fun s3 p3 O3 R3 hO3 => ?_)
      let th:=objCell ((E1.o1 W tW (P.runX w sh t b v r X tX W tW d x (gxO s (P.led w.params sh t b v (Int.ofNat (r+1))) p) N)).ob 3)
      let g:SG:=⟨s1.heap.objs.size,s1.heap.objs.size+1,s1.heap.objs.size+1+1,P.aF,P.aH,hdOf q,th,tW⟩
      obtain ⟨s4,oI,tx,n,y1,y2,y3,sv,l,E4,Q4,hl⟩:=sign_ok (g:=g) (p:=p3) (hO3.outIs (F E1).k) R3 rfl hW
      let E2:HE:={E1 with oI:=oI,vs:=tx.map fun x => .str x.1 x.2,n:=n,s1:=y1,s2:=y2,s3:=y3,sv:=sv,b1:=s4.heap.objs.size,k1:=s4.toks,g1:=s4.gens.size}
      refine ⟨E2.e1 w.params,s4,E4, ?_, ?_⟩
      · refine eff_of (ix:=[7,8,9]) (F:=[(s1.heap.objs.size,oI),(s1.heap.objs.size+1,listO (tx.map fun x => .str x.1 x.2) n),(s1.heap.objs.size+1+1,dictO w.params [(k_sign,y1, .str sv y2)] y3)]) (news:=[]) ?_ (fun y hy => ?_) (fun _ h=>nomatch h) (fun _ h=>nomatch h) List.nodup_nil (by decide) rfl
        · exact Kept.drop (L:=[(s1.heap.objs.size,oI),(s1.heap.objs.size+1,listO (tx.map fun x => .str x.1 x.2) n),(s1.heap.objs.size+1+1,dictO w.params [(k_sign,y1, .str sv y2)] y3)]) (M:=[(P.aH,cellO (.str (hdOf q) th))]) Q4.kept
            (fun y hy=>R3.at' y (.tail _ (.tail _ (.tail _ hy)))) (fun y hy=>Q4.at' y (.tail _ (.tail _ (.tail _ hy))))
        · rcases List.mem_cons.mp hy with rfl | hy
          · exact Q4.at' _ (.head _)
          rcases List.mem_cons.mp hy with rfl | hy
          · exact Q4.at' _ (.tail _ (.head _))
          rcases List.mem_cons.mp hy with rfl | hy
          · exact Q4.at' _ (.tail _ (.tail _ (.head _)))
          · exact nomatch hy
      refine ok_cutL (F E2).j no_cond (fun s5 p5 O5 R5 hle5 hO5 => ?_)
      have hle5:s.heap.objs.size≤s5.heap.objs.size:=hle5
      have A5:s5.heap.get? (s1.heap.objs.size+1)=some (listO (tx.map fun x => .str x.1 x.2) n):=R5.at' _ (.head _)
      have hfl:(tx.map (·.1)).flatMap (fun x=>x.cps.toList)=encL (hidB q) W.cps.toList:=by
        rw [show (tx.map (·.1))=l from Q4.tx]; exact hl
      have hel:=encL_len (hidB q) W.cps.toList
      obtain ⟨s6,J,tJ,E6,K6,hJ⟩:=call_join hO5 A5 (by rw [hfl]; lia)
      rw [hfl] at hJ
      let E3:HE:={E2 with J:=J,tJ:=tJ,b2:=s6.heap.objs.size,k2:=s6.toks,g2:=s6.gens.size}
      refine ⟨E3.e2,s6,E6,eff_of (ix:=[]) (F:=[]) (news:=[]) K6 (fun _ h=>nomatch h) (fun _ h=>nomatch h) (fun _ h=>nomatch h) List.nodup_nil List.nodup_nil rfl, ?_⟩
      have hJl:J.length≤24:=by rw [str_len,hJ]; lia
      have hwd:=wdOf_len q J
      let OU:=P.runX w sh t b v r X tX W tW d x (gxO s (P.led w.params sh t b v (Int.ofNat (r+1))) p) N
      refine ok_again (F E3).z ?_ (fun s' _ _ _ gb P' hb' => ⟨rfl,t.nx q v wh J (s6.heap.objs.size+1) (E3.o1 W tW OU) (E3.o3 w.params W tW OU),s6.heap.objs.size+1,J,(E3.o3 w.params W tW OU).dt 7 0,(E3.o3 w.params W tW OU).dt 7 1,kept_of R.starts P' hb', ?_, ?_,rfl,rfl,hJ,rfl⟩)
      · show AllP (cTail t q wh J)
        refine AllP.app ?_ (AllP.app ?_ (AllP.cons (by lia) ?_))
        · exact AllP.cons (by rw [app_len]; lia) .nil
        · exact AllP.cons (by lia) .nil
        · cases q with
          | true=>exact AllP.app (AllP.cons (by rw [app_len]; show 1+J.length+1≤16777216; lia) .nil) (AllP.cons (by show 1+J.length≤16777216; lia) .nil)
          | false=>exact .nil
      · have z:=all_of P'
        rw [left_pred] at z
        exact z
      · exact Nat.le_trans hle5 (Nat.le_trans K6.le (Nat.le_succ _))))
  exact ⟨s',p',T',a,J,tw,td,hC,hQ⟩
end Mine
end
section
open PySem PySem.W PySem.W.X PySem.Calls PyProof.Rows PySem.SeqAt
namespace Mine
noncomputable def whD (k:Nat):Nat:=[32,9,10,13].getD (k % 4) 0
noncomputable def whT (shut:Bool) (k:Nat):List Nat:=if shut && decide (k % 3>0) then [] else [whD k]
noncomputable def wdT:Bool→List Nat→List Nat
  | true,W=>34 :: (encL hidQ W++[34])
  | false,W=>encL hidU W
noncomputable def shutAt (q:Nat→Bool):Nat→Bool | 0=>false | k+1=>q k
noncomputable def layT (q:Nat→Bool) (W:Nat→List Nat):Nat→List Nat
  | 0=>[]
  | k+1=>layT q W k++(whT (shutAt q k) k++wdT (q k) (W k))
noncomputable def HP.q (P:HP) (k:Nat):Bool:=Int.fmod (P.x (k / 2)+Int.ofNat k) 2 == 0
noncomputable def HP.W (P:HP) (k:Nat):List Nat:=(P.ws k).1.cps.toList
noncomputable def shOf:Nat→Nat | 0=>0 | _+1=>1
theorem cIt_ws (P:HP) : ∀ k,k<8→AllP (cItem P.wsL (Int.ofNat k) (.str (P.ws k).1 (P.ws k).2))
  | 0,_=>AllP.cons (by decide) (AllP.cons (by decide) (AllP.cons rfl .nil))
  | 1,_=>AllP.cons (by decide) (AllP.cons (by decide) (AllP.cons rfl .nil))
  | 2,_=>AllP.cons (by decide) (AllP.cons (by decide) (AllP.cons rfl .nil))
  | 3,_=>AllP.cons (by decide) (AllP.cons (by decide) (AllP.cons rfl .nil))
  | 4,_=>AllP.cons (by decide) (AllP.cons (by decide) (AllP.cons rfl .nil))
  | 5,_=>AllP.cons (by decide) (AllP.cons (by decide) (AllP.cons rfl .nil))
  | 6,_=>AllP.cons (by decide) (AllP.cons (by decide) (AllP.cons rfl .nil))
  | 7,_=>AllP.cons (by decide) (AllP.cons (by decide) (AllP.cons rfl .nil))
  | n+8,h=>absurd h (by lia)
theorem cIt_ns (P:HP) : ∀ k,k<8→AllP (cItem P.nsL (Int.fdiv (Int.ofNat k) 2) (.int (P.x (k / 2)) (P.u (k / 2))))
  | 0,_=>AllP.cons (by decide) (AllP.cons (by decide) (AllP.cons rfl .nil))
  | 1,_=>AllP.cons (by decide) (AllP.cons (by decide) (AllP.cons rfl .nil))
  | 2,_=>AllP.cons (by decide) (AllP.cons (by decide) (AllP.cons rfl .nil))
  | 3,_=>AllP.cons (by decide) (AllP.cons (by decide) (AllP.cons rfl .nil))
  | 4,_=>AllP.cons (by decide) (AllP.cons (by decide) (AllP.cons rfl .nil))
  | 5,_=>AllP.cons (by decide) (AllP.cons (by decide) (AllP.cons rfl .nil))
  | 6,_=>AllP.cons (by decide) (AllP.cons (by decide) (AllP.cons rfl .nil))
  | 7,_=>AllP.cons (by decide) (AllP.cons (by decide) (AllP.cons rfl .nil))
  | n+8,h=>absurd h (by omega)
theorem cD_ok : ∀ k,k<8→AllP (cD (Int.ofNat k) (whD k)):=fun k hk=>by
  have : ∀ k<8,0≤Int.fmod (Int.ofNat k) 4∧Int.fmod (Int.ofNat k) 4<1000∧(S [32,9,10,13]).cps[(Int.fmod (Int.ofNat k) 4).toNat]? = some (whD k):=by decide +kernel
  obtain ⟨h1,h2,h3⟩:=this k hk
  exact AllP.cons h1 (AllP.cons h2 (AllP.cons h3 .nil))
theorem cB_ok : ∀ k,k<8→AllP (cB (Int.ofNat k) (decide (k % 3>0))):=fun k hk=>by
  have : ∀ k<8,decide (Int.fmod (Int.ofNat k) 3>0)=decide (k % 3>0):=by decide +kernel
  exact AllP.cons (this k hk) .nil
theorem cQ_ok (P:HP) (k:Nat):AllP (cQ (P.x (k / 2)) (Int.ofNat k) (P.q k)):=AllP.cons rfl .nil
set_option maxHeartbeats 1000000 in
theorem shk_ok {P:HP} {w:World} {x:FX} {O:List Frame} (hO:OutIs O x.out) {t:HS} {k:Nat} (hk:k<8) {s:Shared} {p:Pos} (R:Ready w s (P.led w.params (shOf k) t (shutAt P.q k) (Int.ofNat k) (Int.ofNat (7 - k+1))))
    (hW:Shape (P.q k) (P.W k)) (hxl:t.xs.length≤100) (htl:t.text.length≤5000) :
    ∃ s' p' T' a J tw td wh,Comes (model pw w) s ⟨(model pw w).den (sheetLoop P.aI P.aF P.aH),sheetLoop P.aI P.aF P.aH,p,O⟩ s' ⟨(model pw w).den (sheetLoop P.aI P.aF P.aH),sheetLoop P.aI P.aF P.aH,p',O⟩ ∧
      ShQ P w s (shOf k) t (shutAt P.q k) (Int.ofNat k) (7 - k) (P.q k) wh (P.W k) s' T' a J tw td∧wh.cps.toList=whT (shutAt P.q k) k:=by
  have h1:=cIt_ws P k hk
  have h2:=cIt_ns P k hk
  have h3:=cD_ok k hk
  have h4:=cB_ok k hk
  have h5:=cQ_ok P k
  generalize hq:P.q k=q at *
  cases k with
  | zero =>
    cases q with
    | true =>
      obtain ⟨s',p',T',a,J,tw,td,hC,hQ⟩:=shturn_of (wh:=⟨#[whD 0]⟩) (p:=p) hO (N:=N_sha0t) (CS0:=_) (sh_a0t P w t (Int.ofNat 0) 7 (P.x 0) (P.u 0) (P.ws 0).1 (P.ws 0).2 (whD 0) x) R (AllP.app h1 (AllP.app h3 (AllP.app h5 h2))) hW hxl htl (by decide)
      exact ⟨s',p',T',a,J,tw,td,_,hC,hQ,rfl⟩
    | false =>
      obtain ⟨s',p',T',a,J,tw,td,hC,hQ⟩:=shturn_of (wh:=⟨#[whD 0]⟩) (p:=p) hO (N:=N_sha0f) (CS0:=_) (sh_a0f P w t (Int.ofNat 0) 7 (P.x 0) (P.u 0) (P.ws 0).1 (P.ws 0).2 (whD 0) x) R (AllP.app h1 (AllP.app h3 (AllP.app h5 h2))) hW hxl htl (by decide)
      exact ⟨s',p',T',a,J,tw,td,_,hC,hQ,rfl⟩
  | succ j =>
    change Ready w s (P.led w.params 1 t (P.q j) (Int.ofNat (j+1)) (Int.ofNat (7 - (j+1)+1))) at R
    show ∃ s' p' T' a J tw td wh,_∧ShQ P w s 1 t (P.q j) (Int.ofNat (j+1)) (7 - (j+1)) q wh (P.W (j+1)) s' T' a J tw td∧wh.cps.toList=whT (P.q j) (j+1)
    generalize P.q j=b at *
    generalize 7 - (j+1)=r at *
    cases b with
    | false =>
      cases q with
      | true =>
        obtain ⟨s',p',T',a,J,tw,td,hC,hQ⟩:=shturn_of (wh:=⟨#[whD (j+1)]⟩) (p:=p) hO (N:=N_sha1t) (CS0:=_) (sh_a1t P w t (Int.ofNat (j+1)) r (P.x ((j+1) / 2)) (P.u ((j+1) / 2)) (P.ws (j+1)).1 (P.ws (j+1)).2 (whD (j+1)) x) R (AllP.app h1 (AllP.app h3 (AllP.app h5 h2))) hW hxl htl (Nat.le_refl 1)
        exact ⟨s',p',T',a,J,tw,td,_,hC,hQ,rfl⟩
      | false =>
        obtain ⟨s',p',T',a,J,tw,td,hC,hQ⟩:=shturn_of (wh:=⟨#[whD (j+1)]⟩) (p:=p) hO (N:=N_sha1f) (CS0:=_) (sh_a1f P w t (Int.ofNat (j+1)) r (P.x ((j+1) / 2)) (P.u ((j+1) / 2)) (P.ws (j+1)).1 (P.ws (j+1)).2 (whD (j+1)) x) R (AllP.app h1 (AllP.app h3 (AllP.app h5 h2))) hW hxl htl (Nat.le_refl 1)
        exact ⟨s',p',T',a,J,tw,td,_,hC,hQ,rfl⟩
    | true =>
      by_cases h3k:(j+1) % 3>0
      · have e3:whT true (j+1)=[]:=if_pos (by simp only [Bool.true_and]; exact decide_eq_true h3k)
        rw [e3]
        rw [decide_eq_true h3k] at h4
        cases q with
        | true =>
          obtain ⟨s',p',T',a,J,tw,td,hC,hQ⟩:=shturn_of (wh:=(S [])) (p:=p) hO (N:=N_shb1t) (CS0:=_) (sh_b1t P w t (Int.ofNat (j+1)) r (P.x ((j+1) / 2)) (P.u ((j+1) / 2)) (P.ws (j+1)).1 (P.ws (j+1)).2 x) R (AllP.app h1 (AllP.app h4 (AllP.app h5 h2))) hW hxl htl (Nat.zero_le 1)
          exact ⟨s',p',T',a,J,tw,td,_,hC,hQ,rfl⟩
        | false =>
          obtain ⟨s',p',T',a,J,tw,td,hC,hQ⟩:=shturn_of (wh:=(S [])) (p:=p) hO (N:=N_shb1f) (CS0:=_) (sh_b1f P w t (Int.ofNat (j+1)) r (P.x ((j+1) / 2)) (P.u ((j+1) / 2)) (P.ws (j+1)).1 (P.ws (j+1)).2 x) R (AllP.app h1 (AllP.app h4 (AllP.app h5 h2))) hW hxl htl (Nat.zero_le 1)
          exact ⟨s',p',T',a,J,tw,td,_,hC,hQ,rfl⟩
      · have e3:whT true (j+1)=[whD (j+1)]:=if_neg (by simp only [Bool.true_and]; exact fun h=>h3k (of_decide_eq_true h))
        rw [e3]
        rw [decide_eq_false h3k] at h4
        cases q with
        | true =>
          obtain ⟨s',p',T',a,J,tw,td,hC,hQ⟩:=shturn_of (wh:=⟨#[whD (j+1)]⟩) (p:=p) hO (N:=N_shc1t) (CS0:=_) (sh_c1t P w t (Int.ofNat (j+1)) r (P.x ((j+1) / 2)) (P.u ((j+1) / 2)) (P.ws (j+1)).1 (P.ws (j+1)).2 (whD (j+1)) x) R (AllP.app h1 (AllP.app h3 (AllP.app h4 (AllP.app h5 h2)))) hW hxl htl (Nat.le_refl 1)
          exact ⟨s',p',T',a,J,tw,td,_,hC,hQ,rfl⟩
        | false =>
          obtain ⟨s',p',T',a,J,tw,td,hC,hQ⟩:=shturn_of (wh:=⟨#[whD (j+1)]⟩) (p:=p) hO (N:=N_shc1f) (CS0:=_) (sh_c1f P w t (Int.ofNat (j+1)) r (P.x ((j+1) / 2)) (P.u ((j+1) / 2)) (P.ws (j+1)).1 (P.ws (j+1)).2 (whD (j+1)) x) R (AllP.app h1 (AllP.app h3 (AllP.app h4 (AllP.app h5 h2)))) hW hxl htl (Nat.le_refl 1)
          exact ⟨s',p',T',a,J,tw,td,_,hC,hQ,rfl⟩
end Mine
end
section
open PySem PySem.W PySem.W.X PySem.Calls PyProof.Rows PySem.SeqAt
namespace Mine
theorem app_list (x y:Str):(x++y).cps.toList=x.cps.toList++y.cps.toList:=by show (x.cps++y.cps).toList=_; simp
theorem wdOf_list {q:Bool} {J:Str} {W:List Nat} (h:J.cps.toList=encL (hidB q) W):(wdOf q J).cps.toList=wdT q W:=by
  cases q with
  | true =>
    show ((S [34]++J)++S [34]).cps.toList=34 :: (encL hidQ W++[34])
    rw [app_list,app_list,h]
    rfl
  | false=>exact h
noncomputable def PQ.txt (z:PQ):List Nat:=z.w.cps.toList++z.n.cps.toList
noncomputable def HP.as (P:HP):List Addr:=[P.aI,P.aF,P.aH,P.aW,P.aN,P.aS,P.aD]
structure ShI (P:HP) (w:World) (lb:Nat) (s:Shared) (k:Nat) (ps:List PQ) (t:HS):Prop where
  R:Ready w s (P.led w.params (shOf k) t (shutAt P.q k) (Int.ofNat k) (Int.ofNat (8 - k)))
  parts:AllAt s (partsL ps)
  xs:t.xs=refsOf ps
  np:ps.length=k
  lo : ∀ z∈ps,lb≤z.a
  nd:(P.as++ps.map (·.a)).Nodup
  hk : ∀ z∈ps,(ktP w.params).get z.a=none
  txt:ps.flatMap PQ.txt=t.text.cps.toList
  lay:t.text.cps.toList=layT P.q P.W k
  sz : ∀ z∈ps,z.w.length≤1∧z.n.length≤26
  sh:k=0∨t.shut=shutAt P.q k
theorem txt_le : ∀ (ps:List PQ),(∀ z∈ps,z.w.length≤1∧z.n.length≤26)→(ps.flatMap PQ.txt).length≤27*ps.length
  | [],_=>Nat.le_refl _
  | z :: ps,h=>by
    obtain ⟨h1,h2⟩:=h z (.head _)
    have:=txt_le ps fun y hy=>h y (.tail _ hy)
    rw [List.flatMap_cons,List.length_append,List.length_cons]
    have e:z.txt.length≤27:=by
      unfold PQ.txt
      rw [List.length_append,← str_len,← str_len]
      lia
    lia
inductive sheet_turn_r (P:HP) (w:World) (O:List Frame) (lb:Nat) (k:Nat) (s:Shared) (p:Pos):Prop
  | mk : ∀ s' p' t' ps',(Comes (model pw w) s ⟨(model pw w).den (sheetLoop P.aI P.aF P.aH),sheetLoop P.aI P.aF P.aH,p,O⟩ s' ⟨(model pw w).den (sheetLoop P.aI P.aF P.aH),sheetLoop P.aI P.aF P.aH,p',O⟩)→(Kept s s' P.as)→(ShI P w lb s' (k+1) ps' t')→sheet_turn_r P w O lb k s p
theorem sheet_turn {P:HP} {w:World} {x:FX} {O:List Frame} (hO:OutIs O x.out) {lb k:Nat} {t:HS} {ps:List PQ} (hk:k<8) {s:Shared} {p:Pos} (I:ShI P w lb s k ps t) (hlb:lb≤s.heap.objs.size) (hW:Shape (P.q k) (P.W k)):sheet_turn_r P w O lb k s p:=by
  have hl:=txt_le ps I.sz
  rw [I.txt,← str_len,I.np] at hl
  have R:=I.R
  have e8:8 - k=7 - k+1:=by lia
  rw [e8] at R
  obtain ⟨s',p',T',a,J,tw,td,wh,hC,Q,hwh⟩:=shk_ok (p:=p) hO hk R hW (by rw [I.xs]; unfold refsOf; rw [List.length_map,I.np]; lia) (by lia)
  have hwd:=wdOf_list Q.J
  have A:=Q.at'
  have hle:=Q.kept.le
  have hJ:J.length≤24:=by
    rw [str_len,Q.J]
    have:=encL_len (hidB (P.q k)) (P.W k)
    have:=(shape_all hW).2
    lia
  have hwdl:=wdOf_len (P.q k) J
  have hwl:wh.length≤1:=by
    rw [str_len,hwh]
    unfold whT
    split <;> simp
  have hnew:(a,tupO [.str wh tw, .str (wdOf (P.q k) J) td] 0)∈P.led w.params 1 T' (P.q k) (Int.ofNat k+1) (Int.ofNat (7 - k))++[(a,tupO [.str wh tw, .str (wdOf (P.q k) J) td] 0)]:=List.mem_append.mpr (.inr (.head _))
  have hpas : ∀ z∈ps,z.a∉P.as:=fun z hz hm=>(List.nodup_append.mp I.nd).2.2 _ hm _ (List.mem_map.mpr ⟨z,hz,rfl⟩) rfl
  have hplt : ∀ z∈ps,z.a<s.heap.objs.size:=fun z hz=>get?_lt (I.parts _ (partsL_of hz))
  refine ⟨s',p',T',ps++[⟨a,wh,tw,wdOf (P.q k) J,td,0⟩],hC,Q.kept,⟨?_, ?_, ?_, ?_, ?_, ?_, ?_, ?_, ?_, ?_, .inr Q.shut⟩⟩
  · have:8 - (k+1)=7 - k:=by lia
    rw [this]
    exact R.next Q.kept (fun y hy=>A y (List.mem_append.mpr (.inl hy))) rfl
  · intro y hy
    unfold partsL at hy
    rw [List.flatMap_append] at hy
    rcases List.mem_append.mp hy with hy | hy
    · refine AllAt.kept I.parts Q.kept (fun x hx hm => ?_) y hy
      obtain ⟨z,hz,rfl⟩:=partsL_mem hx
      exact hpas z hz hm
    · rcases List.mem_cons.mp hy with rfl | hy
      · exact A _ hnew
      · exact nomatch hy
  · rw [Q.xs,I.xs]
    unfold refsOf
    rw [List.map_append]
    rfl
  · rw [List.length_append,I.np]; rfl
  · intro z hz
    rcases List.mem_append.mp hz with hz | hz
    · exact I.lo z hz
    · rcases List.mem_cons.mp hz with rfl | hz
      · exact Nat.le_trans hlb Q.lo
      · exact nomatch hz
  · rw [List.map_append,← List.append_assoc]
    refine List.nodup_append.mpr ⟨I.nd,by simp,fun b hb c hc e => ?_⟩
    rcases List.mem_cons.mp hc with hc | hc
    · subst e
      subst hc
      have:b<s.heap.objs.size:=by
        rcases List.mem_append.mp hb with hb | hb
        · exact R.lt hb
        · obtain ⟨z,hz,rfl⟩:=List.mem_map.mp hb
          exact hplt z hz
      exact absurd Q.lo (Nat.not_le.mpr this)
    · exact nomatch hc
  · intro z hz
    rcases List.mem_append.mp hz with hz | hz
    · exact I.hk z hz
    · rcases List.mem_cons.mp hz with rfl | hz
      · exact Ready.newNone R.old Q.lo
      · exact nomatch hz
  · rw [List.flatMap_append,I.txt,Q.text,app_list,app_list]
    show _++((wh.cps.toList++_)++[])=_
    rw [List.append_nil]
  · rw [Q.text,app_list,app_list,I.lay,hwh,hwd]
    rfl
  · intro z hz
    rcases List.mem_append.mp hz with hz | hz
    · exact I.sz z hz
    · rcases List.mem_cons.mp hz with rfl | hz
      · exact ⟨hwl,by show (wdOf _ _).length≤26; lia⟩
      · exact nomatch hz
inductive sheet_turns_r (P:HP) (w:World) (O:List Frame) (lb:Nat) (s:Shared) (p:Pos):Prop
  | mk : ∀ s' p' t' ps',(Comes (model pw w) s ⟨(model pw w).den (sheetLoop P.aI P.aF P.aH),sheetLoop P.aI P.aF P.aH,p,O⟩ s' ⟨(model pw w).den (sheetLoop P.aI P.aF P.aH),sheetLoop P.aI P.aF P.aH,p',O⟩)→(Kept s s' P.as)→(ShI P w lb s' 8 ps' t')→sheet_turns_r P w O lb s p
theorem sheet_turns {P:HP} {w:World} {x:FX} {O:List Frame} (hO:OutIs O x.out) {lb:Nat} (hW : ∀ k<8,Shape (P.q k) (P.W k)) : ∀ (m k:Nat) (t:HS) (ps:List PQ) (s:Shared) (p:Pos),k+m=8→ShI P w lb s k ps t→lb≤s.heap.objs.size →
    sheet_turns_r P w O lb s p
  | 0,k,t,ps,s,p,hk,I,hl=>by
    have:k=8:=by lia
    subst this
    exact ⟨s,p,t,ps,⟨0,rfl⟩, .refl _ _,I⟩
  | m+1,k,t,ps,s,p,hk,I,hl=>by
    obtain ⟨s1,p1,t1,ps1,C1,K1,I1⟩:=sheet_turn (p:=p) hO (by lia) I hl (hW k (by lia))
    obtain ⟨s2,p2,t2,ps2,C2,K2,I2⟩:=sheet_turns hO hW m (k+1) t1 ps1 s1 p1 (by lia) I1 (Nat.le_trans hl K1.le)
    exact ⟨s2,p2,t2,ps2,C1.trans C2,K1.trans K2 fun b hb => .inl hb,I2⟩
noncomputable def N_she:Nat:=0x2401004010000100001
theorem she_end (P:HP) (w:World) (t:HS) (b:Bool) (x:FX) (c:GX) :
    isRet ((sg w ((.func x.b2 x.e2,x.p2) :: outLaw x.b3 x.e3 x.p3 x.p4) [0,1,2,3,4,5,6] {} (P.led w.params 1 t b 8 0) c.g c.base c.tk c.gb (sheetLoop P.aI P.aF P.aH) c.p).run 100 N_she) (.ok .next) ((P.led w.params 1 t b 8 0).map some) []:=by
  kernel_rfl
inductive shLoop_ok_r (P:HP) (w:World) (O:List Frame) (s:Shared) (p:Pos):Prop
  | mk : ∀ s' t' ps,(EndsAt (model pw w) s (sheetLoop P.aI P.aF P.aH) p O s' (.ok .next))→(Kept s s' P.as)→(ShI P w s.heap.objs.size s' 8 ps t')→shLoop_ok_r P w O s p
theorem shLoop_ok {P:HP} {w:World} {x:FX} {O:List Frame} (hO:OutIs O x.out) {t:HS} {s:Shared} {p:Pos} (hW : ∀ k<8,Shape (P.q k) (P.W k)) (R:Ready w s (P.led w.params 0 t false 0 8)) (hx:t.xs=[]) (ht:t.text=S []):shLoop_ok_r P w O s p:=by
  have I:ShI P w s.heap.objs.size s 0 [] t:=⟨R,(fun _ h=>nomatch h),hx,rfl,(fun _ h=>nomatch h),by rw [List.map_nil,List.append_nil]; exact R.nd,(fun _ h=>nomatch h),by rw [ht]; rfl,by rw [ht]; rfl,(fun _ h=>nomatch h), .inl rfl⟩
  obtain ⟨s1,p1,t1,ps,C1,K1,I1⟩:=sheet_turns hO hW 8 0 t [] s p rfl I (Nat.le_refl _)
  obtain ⟨s2,E2,K2,A2⟩:=seg_ret (ids:=[0,1,2,3,4,5,6]) (r:={}) (N:=N_she) (fuel:=100) (p:=p1) I1.R hO (by decide) no_alts (she_end P w t1 (shutAt P.q 8) x (gxO s1 (P.led w.params 1 t1 (shutAt P.q 8) 8 0) p1)) no_cond
  refine ⟨s2,t1,ps,EndsAt.after C1 E2,K1.trans K2 (fun b hb => .inl hb),⟨I1.R.next K2 A2 rfl,AllAt.kept I1.parts K2 fun y hy hm => ?_,I1.xs,I1.np,I1.lo,I1.nd,I1.hk,I1.txt,I1.lay,I1.sz,I1.sh⟩⟩
  obtain ⟨z,hz,rfl⟩:=partsL_mem hy
  exact (List.nodup_append.mp I1.nd).2.2 _ hm _ (List.mem_map.mpr ⟨z,hz,rfl⟩) rfl
end Mine
end
section
open PySem PySem.W PySem.W.X PySem.Calls PyProof.Rows PySem.SeqAt
namespace Mine
noncomputable def initD:FD:=defAt 3 (some 0)
noncomputable def initEnv (L:Addr):PySem.Env:=accEnv initD ⟨#[95,65,99,99,117,109,117,108,97,116,111,114,46,95,95,105,110,105,116,95,95,46,60,108,111,99,97,108,115,62,46]⟩ 38 L
noncomputable def initPos:Pos:={line:=10,col:=8,endLine:=10,endCol:=15}
noncomputable def initT (den:Code→Sem Fin) (P:Params) (L:Addr) (S:Stk) (p:Pos):Sem Fin:=adv 20 [.obj (o38 P), .ask ⟨pw,P⟩, .obj (o37 P), .obj (o3 P), .obj (o0 P), .obj (o25 P), .stk ((.func initD.b (initEnv L),p) :: S)] (den (.func (initD.b.drop 1) (initEnv L)))
noncomputable def altI (P:Params) (L:Addr) (S:Stk) (p:Pos):{T2:Sem Fin // initT (denote table) P L S p=T2}:=by
  apply Subtype.mk
  repeat (first | (with_unfolding_all apply ite_no) | (with_unfolding_all apply raise_congr) | (with_unfolding_all apply bind_congr))
  show ¬ ((some (some L):Option (Option Addr)) != some (some L))=true
  simp
noncomputable def initAlt (w:World) (L:Addr) (S:Stk):Sem Fin × Sem Fin:=(initT denF w.params L S initPos,(altI w.params L S initPos).val)
theorem initAlt_ok (w:World) (L:Addr) (S:Stk):(initAlt w L S).1=(initAlt w L S).2:=
  (congrArg (fun d=>initT d w.params L S initPos) denF_eq).trans (altI w.params L S initPos).property
end Mine
end
section
open PySem PySem.W PySem.W.X PySem.Calls PyProof.Rows PySem.SeqAt
namespace Mine
noncomputable def N_acc0:Nat:=(0x200002<<<210+0x40100400000020000000002000020000000800000000000200c03000000000300c0000c03<<<330+3073<<<690+0x1400014000080000000000040100400004000040100401004010040100000802000000100001004<<<770+zz2<<<1100)
noncomputable def N_acc9:Nat:=(0x200002<<<210+0x40100400000020000000002000020000000800000000000200c03000000000300c0000c03<<<330+3073<<<690+0x1400014000080000000000040100400004000040100401004010040100000802000000100001004<<<770+zz2<<<1100)
noncomputable def newStk (args:List Value) (p:Pos) (ol:Stk):Stk:=(.builtin "type.__call__" ⟨.ref 101 :: args,[]⟩,p) :: ol
noncomputable def newRun (w:World) (args:List Value) (ol:Stk) (c:GX) (N:Nat):Out:=
  (sg w ol [1,0] {alts:=[initAlt w ((c.base+236)+2) (newStk args c.p ol)]} [] c.g (c.base+236) c.tk c.gb (.call (.ref 101) ⟨args,[]⟩) c.p).run 300 N
theorem new0_sheet (w:World) (b2:List Stmt) (e2:PySem.Env) (p2:Pos) (b:List Stmt) (lenv:PySem.Env) (p3 p4:Pos) (c:GX) :
    isRet (newRun w [] ((.func b2 e2,p2) :: outLaw b lenv p3 p4) c N_acc0) (.ok (.ret (.ref ((c.base+236)+1)))) ([((c.base+236)+1,accO (c.base+236) [] 0),((c.base+236),sizeO w.params 0 (c.tk+3) 210 1)].map some) []:=by
  kernel_rfl
theorem new0_law (w:World) (b:List Stmt) (lenv:PySem.Env) (p3 p4:Pos) (c:GX) :
    isRet (newRun w [] (outLaw b lenv p3 p4) c N_acc0) (.ok (.ret (.ref ((c.base+236)+1)))) ([((c.base+236)+1,accO (c.base+236) [] 0),((c.base+236),sizeO w.params 0 (c.tk+3) 210 1)].map some) []:=by
  kernel_rfl
theorem new9_law (w:World) (t9:Nat) (b:List Stmt) (lenv:PySem.Env) (p3 p4:Pos) (c:GX) :
    isRet (newRun w [.int 9 t9] (outLaw b lenv p3 p4) c N_acc9) (.ok (.ret (.ref ((c.base+236)+1)))) ([((c.base+236)+1,accO (c.base+236) [] 0),((c.base+236),sizeO w.params 9 (c.tk+3) t9 1)].map some) []:=by
  kernel_rfl
end Mine
end
section
open PySem PySem.W PySem.W.X PySem.Calls PyProof.Rows PySem.SeqAt
namespace Mine
theorem kt235 (P:Params):((ktP P).get 235).isSome=true:=by kernel_rfl
theorem Old.size {w:World} {s:Shared} (h:Old w s) : ∃ b,s.heap.objs.size=b+236:=by
  obtain ⟨o,ho⟩:=Option.isSome_iff_exists.mp (kt235 w.params)
  have:(235:Nat)<s.heap.objs.size:=get?_lt (h 235 o ho)
  exact ⟨s.heap.objs.size - 236,by omega⟩
structure AccQ (w:World) (s s' : Shared) (n:Nat) (aD:Addr) (kk:Nat) (z:Int) (tz:Nat):Prop where
  kept:Kept s s' []
  at' : AllAt s' [(n+236,accO aD [] 0),(aD,sizeO w.params z kk tz 1)]
  lo:s.heap.objs.size≤n+236∧s.heap.objs.size≤aD
  ne:n+236≠aD
theorem cls_of {w:World} {s:Shared} {p:Pos} {O:List Frame} {ol:Stk} {args:List Value} {z:Int} {tz N:Nat} (hO:OutIs O ol) (old:Old w s) (bare:Bare s)
    (F : ∀ c:GX,isRet (newRun w args ol c N) (.ok (.ret (.ref ((c.base+236)+1)))) ([((c.base+236)+1,accO (c.base+236) [] 0),((c.base+236),sizeO w.params z (c.tk+3) tz 1)].map some) []) :
    ∃ s' n aD kk,EndsAt (model pw w) s (.call (.ref 101) ⟨args,[]⟩) p O s' (.ok (.ret (.ref (n+236))))∧AccQ w s s' n aD kk z tz:=by
  obtain ⟨b,hb⟩:=old.size
  obtain ⟨s',hE,hK,hA⟩:=seg_ret (w:=w) (s:=s) (L:=[]) (ids:=[1,0]) (fuel:=300) (N:=N) (r:={alts:=[initAlt w ((b+236)+2) (newStk args p ol)]}) (c:= .call (.ref 101) ⟨args,[]⟩) (p:=p) ⟨fun _ h=>(nomatch h),List.nodup_nil,fun _ h=>(nomatch h),old,bare⟩ hO (by decide) (one_alt (initAlt_ok w _ _))
    (by rw [hb]; exact F ⟨ghO s [],b,s.toks,s.gens.size,p⟩) no_cond
  exact ⟨s',b+1,b+236,s.toks+3,hE,hK,hA,by lia,by lia⟩
theorem cls_sheet {w:World} {s:Shared} {p:Pos} {O:List Frame} {b2:List Stmt} {e2:PySem.Env} {p2:Pos} {b:List Stmt} {lenv:PySem.Env} {p3 p4:Pos} (hO:OutIs O ((.func b2 e2,p2) :: outLaw b lenv p3 p4)) (old:Old w s) (bare:Bare s) :
    ∃ s' n aD kk,EndsAt (model pw w) s (.call (.ref 101) ⟨[],[]⟩) p O s' (.ok (.ret (.ref (n+236))))∧AccQ w s s' n aD kk 0 210:=
  cls_of hO old bare fun c=>new0_sheet w b2 e2 p2 b lenv p3 p4 c
theorem cls_law {w:World} {s:Shared} {p:Pos} {O:List Frame} {b:List Stmt} {lenv:PySem.Env} {p3 p4:Pos} (hO:OutIs O (outLaw b lenv p3 p4)) (old:Old w s) (bare:Bare s) :
    ∃ s' n aD kk,EndsAt (model pw w) s (.call (.ref 101) ⟨[],[]⟩) p O s' (.ok (.ret (.ref (n+236))))∧AccQ w s s' n aD kk 0 210:=
  cls_of hO old bare fun c=>new0_law w b lenv p3 p4 c
theorem cls_nine {w:World} {s:Shared} {p:Pos} {O:List Frame} {t9:Nat} {b:List Stmt} {lenv:PySem.Env} {p3 p4:Pos} (hO:OutIs O (outLaw b lenv p3 p4)) (old:Old w s) (bare:Bare s) :
    ∃ s' n aD kk,EndsAt (model pw w) s (.call (.ref 101) ⟨[.int 9 t9],[]⟩) p O s' (.ok (.ret (.ref (n+236))))∧AccQ w s s' n aD kk 9 t9:=
  cls_of hO old bare fun c=>new9_law w t9 b lenv p3 p4 c
end Mine
end
section
open PySem PySem.W PySem.W.X PySem.Calls PyProof.Rows PySem.SeqAt
namespace Mine
theorem tx_list (z:PQ):z.tx.cps.toList=z.txt:=by
  unfold PQ.tx PQ.txt
  rw [glued_list]
  show z.w.cps.toList++(z.n.cps.toList++[])=_
  rw [List.append_nil]
theorem tx_len {z:PQ} (h:z.w.length≤1∧z.n.length≤26):z.tx.length≤27:=by
  rw [str_len,tx_list]
  unfold PQ.txt
  rw [List.length_append,← str_len,← str_len]
  lia
theorem long_ok (l:List Str) (h:(l.flatMap fun x=>x.cps.toList).length≤1000):Builtin.Str.tooLong (l.toArray.foldl (· + ·.length+(S []).length) 0)=false:=by
  refine tooLong_of ?_
  rw [← Array.foldl_toList]
  show List.foldl (fun (a:Nat) (x:Str)=>a+x.length+(S []).length) 0 l≤_
  rw [fold_len,sum_flat]
  lia
theorem strCS_ok : ∀ (ps:List PQ) (l:List Prop),(∀ z∈ps,z.w.length≤1∧z.n.length≤26)→AllP l→AllP (strCS ps (ps.map PQ.tx) l)
  | [],l,_,h=>h
  | z :: ps,l,hz,h=>by
    have h1:=tx_len (hz z (.head _))
    have h2:=hz z (.head _)
    refine strCS_ok ps _ (fun y hy=>hz y (.tail _ hy)) (AllP.cons rfl (AllP.cons (by lia) (AllP.cons (long_ok _ ?_) h)))
    show (z.w.cps.toList++(z.n.cps.toList++[])).length≤1000
    rw [List.append_nil,List.length_append,← str_len,← str_len]
    lia
theorem flat_tx : ∀ (ps:List PQ),(ps.map PQ.tx).flatMap (fun x=>x.cps.toList)=ps.flatMap PQ.txt
  | []=>rfl
  | z :: ps=>by rw [List.map_cons,List.flatMap_cons,tx_list,flat_tx ps,List.flatMap_cons]
theorem two_alts {al am:Sem Fin × Sem Fin} (h:al.1=al.2) (h' : am.1=am.2) : ∀ x∈[al,am],x.1=x.2:=fun x hx=>by
  rcases List.mem_cons.mp hx with rfl | hx
  · exact h
  rcases List.mem_cons.mp hx with rfl | hx
  · exact h'
  · exact nomatch hx
inductive str_ok_r (w:World) (a:AP) (z0:PQ) (z1:PQ) (z2:PQ) (z3:PQ) (z4:PQ) (z5:PQ) (z6:PQ) (z7:PQ) (s:Shared) (p:Pos) (O:List Frame):Prop
  | mk : ∀ s' Y tY ac,(EndsAt (model pw w) s (.call (.type "str") ⟨[.ref a.aP],[]⟩) p O s' (.ok (.ret (.str Y tY))))→(Kept s s' (a.lenL w.params (tabE 70) [z0,z1,z2,z3,z4,z5,z6,z7]).as)→(AllAt s' (a.lenL w.params (70,tabO 29 32 ac) [z0,z1,z2,z3,z4,z5,z6,z7]))→(Y.cps.toList=[z0,z1,z2,z3,z4,z5,z6,z7].flatMap PQ.txt)→str_ok_r w a z0 z1 z2 z3 z4 z5 z6 z7 s p O
theorem str_ok {w:World} {a:AP} {z0 z1 z2 z3 z4 z5 z6 z7:PQ} {s:Shared} {p:Pos} {O:List Frame} {b:List Stmt} {e:PySem.Env} {pf:Pos} {b2:List Stmt} {e2:PySem.Env} {p2 p3:Pos} (R:Ready w s (a.lenL w.params (tabE 70) [z0,z1,z2,z3,z4,z5,z6,z7])) (hO:OutIs O ((.func b e,pf) :: outLaw b2 e2 p2 p3))
    (hz : ∀ z∈[z0,z1,z2,z3,z4,z5,z6,z7],z.w.length≤1∧z.n.length≤26):str_ok_r w a z0 z1 z2 z3 z4 z5 z6 z7 s p O:=by
  have h:s.heap.objs.size+7≠s.heap.objs.size+6:=by lia
  have hfl:=flat_tx [z0,z1,z2,z3,z4,z5,z6,z7]
  have hl:=txt_le _ hz
  rw [← hfl] at hl
  have hl:(([z0,z1,z2,z3,z4,z5,z6,z7].map PQ.tx).flatMap (fun x=>x.cps.toList)).length≤1000:=Nat.le_trans hl (by simp)
  have hg:=glued_list ([z0,z1,z2,z3,z4,z5,z6,z7].map PQ.tx)
  have hl2:(Builtin.Str.glued (S []) ([z0,z1,z2,z3,z4,z5,z6,z7].map PQ.tx)).length≤16777216:=by rw [str_len,hg]; lia
  obtain ⟨s',hE,hK,hA⟩:=seg_ret (ids:=[0,1,2,3,4,5,6,7,8,9,10]) (N:=N_strj) (fuel:=1200) (p:=p) (c:= .call (.type "str") ⟨[.ref a.aP],[]⟩)
    (r:={alts:=[altJ w (s.heap.objs.size+6) (s.heap.objs.size+7) 196 [(z0.tx,s.toks+11),(z1.tx,s.toks+14),(z2.tx,s.toks+17),(z3.tx,s.toks+20),(z4.tx,s.toks+23),(z5.tx,s.toks+26),(z6.tx,s.toks+29),(z7.tx,s.toks+32)] 10,altX (s.heap.objs.size+7) (s.heap.objs.size+6) h],ss:=[z0.tx,z1.tx,z2.tx,z3.tx,z4.tx,z5.tx,z6.tx,z7.tx]}) R hO (by decide)
    (two_alts (altJ_ok w _ _ 196 10 z0.tx z1.tx z2.tx z3.tx z4.tx z5.tx z6.tx z7.tx _ _ _ _ _ _ _ _ (long_ok _ hl) hl2) (altX_ok _ _ h))
    (str_run w a z0 z1 z2 z3 z4 z5 z6 z7 z0.tx z1.tx z2.tx z3.tx z4.tx z5.tx z6.tx z7.tx b e pf b2 e2 p2 p3 ⟨ghO s (a.lenL w.params (tabE 70) [z0,z1,z2,z3,z4,z5,z6,z7]),s.heap.objs.size,s.toks,s.gens.size,p⟩ h) (strCS_ok _ [] hz .nil)
  exact ⟨s',_,_,_,hE,hK,hA,hg.trans hfl⟩
inductive len8_ok_r (w:World) (n:Nat) (aD:Addr) (xs:List Value) (eP:Nat) (k0:Nat) (k1:Nat) (eD:Nat) (z0:PQ) (z1:PQ) (z2:PQ) (z3:PQ) (z4:PQ) (z5:PQ) (z6:PQ) (z7:PQ) (s:Shared) (p:Pos) (O:List Frame):Prop
  | mk : ∀ s' m tm ac,(EndsAt (model pw w) s (.call (.builtin "len") ⟨[.ref (n+236)],[]⟩) p O s' (.ok (.ret (.int m tm))))→(Kept s s' (AP.lenL ⟨n,aD,xs,eP,0,k0,k1,eD⟩ w.params (tabE 63) [z0,z1,z2,z3,z4,z5,z6,z7]).as)→(AllAt s' (AP.lenL ⟨n,aD,xs,eP,0,k0,k1,eD⟩ w.params (tab63 ac) [z0,z1,z2,z3,z4,z5,z6,z7]))→(m=sumY 0 ([z0,z1,z2,z3,z4,z5,z6,z7].map PQ.sz))→len8_ok_r w n aD xs eP k0 k1 eD z0 z1 z2 z3 z4 z5 z6 z7 s p O
theorem len8_ok {w:World} {n:Nat} {aD:Addr} {xs:List Value} {eP k0 k1 eD:Nat} {z0 z1 z2 z3 z4 z5 z6 z7:PQ} {s:Shared} {p:Pos} {O:List Frame} {b:List Stmt} {e:PySem.Env} {pf:Pos} {b2:List Stmt} {e2:PySem.Env} {p2 p3:Pos} (R:Ready w s (AP.lenL ⟨n,aD,xs,eP,0,k0,k1,eD⟩ w.params (tabE 63) [z0,z1,z2,z3,z4,z5,z6,z7])) (hO:OutIs O ((.func b e,pf) :: outLaw b2 e2 p2 p3))
    (hz : ∀ z∈[z0,z1,z2,z3,z4,z5,z6,z7],z.w.length≤1∧z.n.length≤26):len8_ok_r w n aD xs eP k0 k1 eD z0 z1 z2 z3 z4 z5 z6 z7 s p O:=by
  obtain ⟨s',hE,hK,hA⟩:=len_join (tab' :=tab63 (s.heap.objs.size+4)) (K:=75) (G:=6) (S:=7) (T:=10) (N:=N_len0_8) (ids:=[0,1,2,3,4,5,6,7,8,9,10]) (p:=p) R hO (by decide) (fun z hz' => by have:=hz z hz'; lia) (by simp) (show (0:Int)≤0∧(0:Int)≤1000 by decide)
    (fun h0 h1=>len_0_8 w ⟨n,aD,xs,eP,0,k0,k1,eD⟩ z0 z1 z2 z3 z4 z5 z6 z7 z0.sz z1.sz z2.sz z3.sz z4.sz z5.sz z6.sz z7.sz b e pf b2 e2 p2 p3 (ghO s _) _ _ _ p h0 h1)
  exact ⟨s',_,_,_,hE,hK,hA,rfl⟩
theorem sum_sz : ∀ (ps:List PQ) (a:Int),sumY a (ps.map PQ.sz)=a+((ps.flatMap PQ.txt).length:Int)
  | [],a=>by simp [sumY]
  | z :: ps,a=>by
    have e:sumY a ((z :: ps).map PQ.sz)=sumY (a+z.sz) (ps.map PQ.sz):=rfl
    rw [e,sum_sz ps,List.flatMap_cons,List.length_append]
    have:z.sz=(z.txt.length:Int):=by
      unfold PQ.sz PQ.txt
      rw [List.length_append,← str_len,← str_len]
      simp
    lia
inductive len8_r (ps:List PQ):Prop
  | mk : ∀ z0 z1 z2 z3 z4 z5 z6 z7,(ps=[z0,z1,z2,z3,z4,z5,z6,z7])→len8_r ps
theorem len8 : ∀ (ps:List PQ),ps.length=8→len8_r ps
  | [z0,z1,z2,z3,z4,z5,z6,z7],_=>⟨z0,z1,z2,z3,z4,z5,z6,z7,rfl⟩
  | [],h=>nomatch h
  | [_],h=>nomatch h
  | [_,_],h=>nomatch h
  | [_,_,_],h=>nomatch h
  | [_,_,_,_],h=>nomatch h
  | [_,_,_,_,_],h=>nomatch h
  | [_,_,_,_,_,_],h=>nomatch h
  | [_,_,_,_,_,_,_],h=>nomatch h
  | _ :: _ :: _ :: _ :: _ :: _ :: _ :: _ :: _ :: l,h=>by simp at h
end Mine
end
section
open PySem PySem.W PySem.W.X PySem.Calls PyProof.Rows PySem.SeqAt
namespace Mine
noncomputable def kn (o:Obj):Option String:=match o.cls with | .type t=>some t | _=>none
theorem nd_of {s:Shared} : ∀ {L:Led},AllAt s L→List.Pairwise (fun x y=>kn x.2≠kn y.2∨x.1≠y.1) L→L.as.Nodup
  | [],_,_=>List.nodup_nil
  | x :: L,hA,hP=>by
    rw [List.pairwise_cons] at hP
    refine List.nodup_cons.mpr ⟨fun hm => ?_,nd_of (fun y hy=>hA y (.tail _ hy)) hP.2⟩
    obtain ⟨y,hy,e⟩:=List.mem_map.mp hm
    rcases hP.1 y hy with h | h
    · have h1:=hA x (.head _)
      have h2:=hA y (.tail _ hy)
      rw [e,h1] at h2
      exact h (congrArg (fun o=>kn o) (Option.some.inj h2))
    · exact h e.symm
noncomputable def pz0:PQ:=⟨0,S [],0,S [],0,0⟩
noncomputable def wE0:WE:=⟨0,0,0,0,0,0,0,0,0,S [],0,0,0,0,0,0,0,0,0,0,0⟩
noncomputable def hs0:HS:=⟨S [],0,false,[],0,0,0,0,false,S [],0,S [],0,fun _=>0,none⟩
noncomputable def HP.call (P:HP):Led:=[(P.aW,listO P.wsL P.eW),(P.aN,listO P.nsL P.eN),tabE 63,tabE 70]
theorem pst_le {w:World} {ol:Stk} {ids:List Nat} {r:Ora} {s s1:Shared} {L:Led} {rep:Rp} {base off tk:Nat} (Ps : ∃ ids' gb,Pst (Vk w ol ids (ghO s L) r) s1 ids' rep base off tk gb):s.heap.objs.size≤s1.heap.objs.size:=by
  obtain ⟨_,_,P1⟩:=Ps
  have h4:=P1.le
  rw [P1.size]
  exact h4
theorem pst_old {w:World} {ol:Stk} {ids:List Nat} {r:Ora} {g:Gh} {s1:Shared} {rep:Rp} {base off tk:Nat} (Ps : ∃ ids' gb,Pst (Vk w ol ids g r) s1 ids' rep base off tk gb):Old w s1:=by
  obtain ⟨_,_,P1⟩:=Ps
  exact P1.old
theorem nd_ins {a b c:Nat} {l:List Nat} (h:(a :: b :: l).Nodup) (h1:c≠a) (h2:c≠b) (h3:c∉l):(a :: b :: c :: l).Nodup:=by
  simp only [List.nodup_cons,List.mem_cons,not_or] at h ⊢
  exact ⟨⟨h.1.1,h1.symm,h.1.2⟩,⟨h2.symm,h.2.1⟩,h3,h.2.2⟩
inductive sheet_ok_r (P:HP) (w:World) (s:Shared) (p:Pos) (O:List Frame):Prop
  | mk : ∀ s' T tT ac6 ac7,(EndsAt (model pw w) s (.call (.ref 215) ⟨[.ref P.aW, .ref P.aN],[]⟩) p O s' (.ok (.ret (.str T tT))))→(Kept s s' P.call.as)→(AllAt s' [(P.aW,listO P.wsL P.eW),(P.aN,listO P.nsL P.eN),tab63 ac6,(70,tabO 29 32 ac7)])→(T.cps.toList=layT P.q P.W 8)→sheet_ok_r P w s p O
set_option maxHeartbeats 2000000 in
theorem sheet_ok {P:HP} {w:World} {x:WX} {s:Shared} {p:Pos} {O:List Frame} (hO:OutIs O (outLaw x.b x.e x.p3 x.p4)) (R:Ready w s P.call) (hW : ∀ k<8,Shape (P.q k) (P.W k)):sheet_ok_r P w s p O:=by
  have F0:=sheet_run P w hs0 pz0 pz0 pz0 pz0 pz0 pz0 pz0 pz0 x (gxO s P.call p)
  obtain ⟨r,s',hE,T,tT,ac6,ac7,rfl,hQ⟩:=seg_ok (P:=fun r s' => ∃ T tT ac6 ac7,r = .ok (.ret (.str T tT))∧Kept s s' P.call.as∧AllAt s' [(P.aW,listO P.wsL P.eW),(P.aN,listO P.nsL P.eN),tab63 ac6,(70,tabO 29 32 ac7)]∧T.cps.toList=layT P.q P.W 8)
    (p:=p) (N:=N_shw) (fuel:=800) (ids:=[0,1,2,3]) (r:={exs:=[[],[9,4,5,0,1,6,7],[6,7,3,10,11,12,13,14,15,16,17],[6,7,2,10,11,12,13,14,15,16,17]]}) (L:=P.call) R hO (by decide) no_alts
    (ok_cutR (L:=[]) (F0 wE0).1.1 no_cond (fun s1 p1 O1 R1 hO1=>by
      obtain ⟨s2,n,aD,kk,hE,hQ⟩:=cls_sheet (p:=p1) (hO1.outIs (F0 wE0).1.2) R1.old R1.bare
      let E1:WE:={wE0 with n:=n,aD:=aD,kk:=kk,b0:=s2.heap.objs.size,k0:=s2.toks,g0:=s2.gens.size}
      refine ⟨E1.e0 w.params,s2,hE,eff_new hQ.kept hQ.at' (lo_two hQ.lo.1 hQ.lo.2) (nd_two hQ.ne), ?_⟩
      refine ok_cutR (F0 E1).2.1.1 no_cond (fun s3 p3 O3 R3 hO3 => ?_)
      obtain ⟨s4,t,ps,E4,K4,I⟩:=shLoop_ok (P:=P.in (gxO s P.call p) E1) (x:=⟨sheetD.b,sheetEnv s.heap.objs.size (s.heap.objs.size+1),((P.runW w x (gxO s P.call p)).rest (E1.e0 w.params)).sp2,x.b,x.e,x.p3,x.p4⟩) (t:=hs0.in E1) (p:=p3) (hO3.outIs (F0 E1).2.1.2) hW R3 rfl rfl
      obtain ⟨z0,z1,z2,z3,z4,z5,z6,z7,rfl⟩:=len8 ps I.np
      have R4:Ready w s4 ((P.in (gxO s P.call p) E1).led w.params 1 t t.shut 8 0):=(I.sh.resolve_left (by decide)) ▸ I.R
      let E2:WE:={E1 with b1:=s4.heap.objs.size,k1:=s4.toks,g1:=s4.gens.size}
      have hF:=R4.at'.of (D:=[(s2.heap.objs.size+1,ritO 8 0),(s.heap.objs.size,(P.in (gxO s P.call p) E1).frame w.params 1 t t.shut),(s.heap.objs.size+1,⟨.type "cell", none, .cell t.hid, #[]⟩),(n+236,accO aD t.xs t.eS)]) [0,1,2,5] (by kernel_rfl)
      rw [I.xs] at hF
      refine ⟨E2.e1 w.params (P.in (gxO s P.call p) E1) t [z0,z1,z2,z3,z4,z5,z6,z7],s4,E4,eff_of (ix:=[9,4,5,6]) (news:=partsL [z0,z1,z2,z3,z4,z5,z6,z7]) (K4.lessP (D:=[(P.aW,listO P.wsL P.eW),(P.aN,listO P.nsL P.eN),(aD,sizeO w.params 0 kk 210 1)]) (R3.at'.of [3,4,6] (by kernel_rfl)) (R4.at'.of [3,4,6] (by kernel_rfl)) [0,1,2,4,5,3,6] (by kernel_rfl)) hF I.parts (fun y hy => ?_) (show ([z0,z1,z2,z3,z4,z5,z6,z7].map (·.a)).Nodup from (List.nodup_append.mp I.nd).2.1) (by decide) rfl, ?_⟩
      · obtain ⟨z,hz,rfl⟩:=partsL_mem hy
        exact I.lo z hz
      have F2:=(sheet_run P w t z0 z1 z2 z3 z4 z5 z6 z7 x (gxO s P.call p) E2).2.2
      refine ok_cutR F2.1.1 no_cond (fun s5 p5 O5 R5 hO5 => ?_)
      obtain ⟨s6,Y,tY,ac7,E6,K6,A6,hY⟩:=str_ok (a:=⟨n,aD,[],t.eS,0,kk,210,1⟩) (p:=p5) R5 (hO5.outIs F2.1.2) I.sz
      let E3:WE:={E2 with Y:=Y,tY:=tY,ac7:=ac7,b2:=s6.heap.objs.size,k2:=s6.toks,g2:=s6.gens.size}
      refine ⟨E3.e2,s6,E6,eff_upd (ix:=[3]) (F:=[(70,tabO 29 32 ac7)]) (K6.lessP (D:=(n+236,accO aD (refsOf [z0,z1,z2,z3,z4,z5,z6,z7]) t.eS) :: (aD,sizeO w.params 0 kk 210 1) :: partsL [z0,z1,z2,z3,z4,z5,z6,z7]) (R5.at'.of [0,1,3,4,5,6,7,8,9,10] (by kernel_rfl)) (A6.of [0,1,3,4,5,6,7,8,9,10] (by kernel_rfl)) [1,2,0,3,4,5,6,7,8,9,10] (by kernel_rfl)) (A6.of [2] (by kernel_rfl)) (by decide) rfl, ?_⟩
      have F3:=(sheet_run P w t z0 z1 z2 z3 z4 z5 z6 z7 x (gxO s P.call p) E3).2.2.2
      have hYt:Y.cps.toList=t.text.cps.toList:=hY.trans I.txt
      refine ok_cutR F3.1.1 (AllP.cons (by rw [show E3.Y=Y from rfl,hYt]; exact beq_self_eq_true _) .nil) (fun s7 p7 O7 R7 hO7 => ?_)
      obtain ⟨s8,m,tm,ac6,E8,K8,A8,hm⟩:=len8_ok (p:=p7) R7 (hO7.outIs F3.1.2) I.sz
      let E4:WE:={E3 with m:=m,tm:=tm,ac6:=ac6,b3:=s8.heap.objs.size,k3:=s8.toks,g3:=s8.gens.size}
      refine ⟨E4.e3,s8,E8,eff_upd (ix:=[2]) (F:=[tab63 ac6]) (K8.lessP (D:=(n+236,accO aD (refsOf [z0,z1,z2,z3,z4,z5,z6,z7]) t.eS) :: (aD,sizeO w.params 0 kk 210 1) :: partsL [z0,z1,z2,z3,z4,z5,z6,z7]) (R7.at'.of [0,1,3,4,5,6,7,8,9,10] (by kernel_rfl)) (A8.of [0,1,3,4,5,6,7,8,9,10] (by kernel_rfl)) [1,2,0,3,4,5,6,7,8,9,10] (by kernel_rfl)) (A8.of [2] (by kernel_rfl)) (by decide) rfl, ?_⟩
      have hlen:m=Int.ofNat t.text.length:=by
        rw [hm,sum_sz,I.txt,← str_len]
        simp
      have htl:=txt_le _ I.sz
      rw [I.txt,← str_len] at htl
      have htl:t.text.length≤1000:=Nat.le_trans htl (by simp)
      exact ok_ret (sheet_run P w t z0 z1 z2 z3 z4 z5 z6 z7 x (gxO s P.call p) E4).2.2.2.2 (AllP.cons (by rw [show E4.m=m from rfl,hlen]; exact beq_self_eq_true _) (AllP.cons (Nat.le_trans htl (by decide)) .nil)) (fun s' _ _ _ gb P' hb' => ⟨t.text,t.to,ac6,ac7,rfl,kept_of R.starts P' hb',all_of P',I.lay⟩)))
  exact ⟨s',T,tT,ac6,ac7,hE,hQ.1,hQ.2.1,hQ.2.2⟩
end Mine
end
section
open PySem PySem.W PySem.W.X PySem.Calls PyProof.Rows PySem.SeqAt
namespace Mine
theorem call_len_list {w:World} {s:Shared} {p:Pos} {O:List Frame} {stk:Stk} (hO:AtCall p O stk) {l:Addr} {vs:List Value} {n:Nat} (hl:s.heap.get? l=some (listO vs n)) (hv:vs.length≤1000) :
    ∃ t s',EndsAt (model pw w) s (.call (.builtin "len") ⟨[.ref l],[]⟩) p O s' (.ok (.ret (.int (Int.ofNat vs.length) t)))∧Kept s s' []:=by
  obtain ⟨v,s',hE,rfl,rfl⟩:=lib_call (w:=w) (f:= .builtin "len") (args:=[.ref l]) hO (s:=s) (Q:=fun v s' => v = .int (vs.toArray.size:Nat) (s.toks+1)∧s' = {s with toks:=s.toks+1+1}) (fun A hh _ =>
    PySem.Calls.call_len_list (items:=vs.toArray) ⟨_,hl,rfl,n,rfl⟩ (by simp; lia) ⟨rfl,rfl⟩)
  refine ⟨s.toks+1,{s with toks:=s.toks+1+1}, ?_,⟨fun b o e _=>e,Nat.le_refl _,fun h=>h,rfl,rfl⟩⟩
  simpa using hE
theorem rng_ok : ∀ n≤100,Builtin.Range.small 0 (Int.ofNat n) 1=true∧Builtin.Range.rangeSize 0 (Int.ofNat n) 1=Int.ofNat n:=by decide +kernel
theorem NP.led_as (P:NP) (w:Params) (sh sh' : Nat) (t t' : NS) (a b c d:Int):(P.led w sh t a b).as=(P.led w sh' t' c d).as:=rfl
noncomputable def Ints (xs:List Value):Prop:= ∀ v∈xs,∃ n t,v = .int n t
theorem num_item {xs:List Value} (hx:Ints xs) (hl:xs.length≤100) {v:Nat} (hv:v<xs.length) : ∃ sv st,AllP (cItem xs (Int.ofNat v) (.int sv st)):=by
  obtain ⟨sv,st,e⟩:=hx _ (List.getElem_mem hv)
  refine ⟨sv,st,AllP.cons (Int.natCast_nonneg v) (AllP.cons ?_ (AllP.cons ?_ .nil))⟩
  · show (v:Int)<1000
    lia
  · show xs[v]? = _
    rw [List.getElem?_eq_getElem hv,e]
inductive num_turn_r (P:NP) (w:World) (O:List Frame) (v:Nat) (r:Nat) (sh:Nat) (t:NS) (s:Shared) (p:Pos):Prop
  | mk : ∀ s' p' t',(Comes (model pw w) s ⟨(model pw w).den (numLoop P.aI P.aF),numLoop P.aI P.aF,p,O⟩ s' ⟨(model pw w).den (numLoop P.aI P.aF),numLoop P.aI P.aF,p',O⟩)→(Kept s s' (P.led w.params sh t (Int.ofNat v) (Int.ofNat (r+1))).as)→(AllAt s' (P.led w.params 1 t' (Int.ofNat (v+1)) (Int.ofNat r)))→num_turn_r P w O v r sh t s p
theorem num_turn {P:NP} {w:World} {m:MX} {O:List Frame} (hO:OutIs O m.out) (hx:Ints P.xs) (hl:P.xs.length≤100) {v r sh:Nat} (hsh:sh=0∨sh=1) {t:NS} {s:Shared} {p:Pos} (hv:v+(r+1)=P.xs.length) (R:Ready w s (P.led w.params sh t (Int.ofNat v) (Int.ofNat (r+1)))):num_turn_r P w O v r sh t s p:=by
  obtain ⟨sv,st,hc⟩:=num_item hx hl (show v<P.xs.length by lia)
  have hm:Int.fmod (Int.ofNat v) 4=0∨Int.fmod (Int.ofNat v) 4=1∨Int.fmod (Int.ofNat v) 4=2∨Int.fmod (Int.ofNat v) 4=3:=by
    have : ∀ v≤100,Int.fmod (Int.ofNat v) 4=0∨Int.fmod (Int.ofNat v) 4=1∨Int.fmod (Int.ofNat v) 4=2∨Int.fmod (Int.ofNat v) 4=3:=by decide +kernel
    exact this v (by lia)
  have e2:(Int.ofNat (r+1) - 1:Int)=Int.ofNat r:=by simp
  have C:=fun h:Int=>fun (e:Int.fmod (Int.ofNat v) 4=h)=>AllP.app hc (AllP.cons e .nil)
  rcases hsh with rfl | rfl
  · rcases hm with e | e | e | e
    · obtain ⟨s',p',h1,h2,h3⟩:=seg_again (ids:=[0,1,2,3]) (r:={exs:=[[]],zs:=[0],vs:=[.int sv st]}) (N:=N_nm00) (fuel:=200) (p:=p) R hO (by decide) no_alts (nm00 P w t (Int.ofNat v) r sv st m (gxO s _ p)) (C 0 e)
      rw [e2] at h3
      exact ⟨s',p',_,h1,h2,h3⟩
    · obtain ⟨s',p',h1,h2,h3⟩:=seg_again (ids:=[0,1,2,3]) (r:={exs:=[[]],zs:=[1],vs:=[.int sv st]}) (N:=N_nm10) (fuel:=200) (p:=p) R hO (by decide) no_alts (nm10 P w t (Int.ofNat v) r sv st m (gxO s _ p)) (C 1 e)
      rw [e2] at h3
      exact ⟨s',p',_,h1,h2,h3⟩
    · obtain ⟨s',p',h1,h2,h3⟩:=seg_again (ids:=[0,1,2,3]) (r:={exs:=[[]],zs:=[2],vs:=[.int sv st]}) (N:=N_nm20) (fuel:=200) (p:=p) R hO (by decide) no_alts (nm20 P w t (Int.ofNat v) r sv st m (gxO s _ p)) (C 2 e)
      rw [e2] at h3
      exact ⟨s',p',_,h1,h2,h3⟩
    · obtain ⟨s',p',h1,h2,h3⟩:=seg_again (ids:=[0,1,2,3]) (r:={exs:=[[]],zs:=[3],vs:=[.int sv st]}) (N:=N_nm30) (fuel:=200) (p:=p) R hO (by decide) no_alts (nm30 P w t (Int.ofNat v) r sv st m (gxO s _ p)) (C 3 e)
      rw [e2] at h3
      exact ⟨s',p',_,h1,h2,h3⟩
  · rcases hm with e | e | e | e
    · obtain ⟨s',p',h1,h2,h3⟩:=seg_again (ids:=[0,1,2,3]) (r:={exs:=[[]],zs:=[0],vs:=[.int sv st]}) (N:=N_nm01) (fuel:=200) (p:=p) R hO (by decide) no_alts (nm01 P w t (Int.ofNat v) r sv st m (gxO s _ p)) (C 0 e)
      rw [e2] at h3
      exact ⟨s',p',_,h1,h2,h3⟩
    · obtain ⟨s',p',h1,h2,h3⟩:=seg_again (ids:=[0,1,2,3]) (r:={exs:=[[]],zs:=[1],vs:=[.int sv st]}) (N:=N_nm11) (fuel:=200) (p:=p) R hO (by decide) no_alts (nm11 P w t (Int.ofNat v) r sv st m (gxO s _ p)) (C 1 e)
      rw [e2] at h3
      exact ⟨s',p',_,h1,h2,h3⟩
    · obtain ⟨s',p',h1,h2,h3⟩:=seg_again (ids:=[0,1,2,3]) (r:={exs:=[[]],zs:=[2],vs:=[.int sv st]}) (N:=N_nm21) (fuel:=200) (p:=p) R hO (by decide) no_alts (nm21 P w t (Int.ofNat v) r sv st m (gxO s _ p)) (C 2 e)
      rw [e2] at h3
      exact ⟨s',p',_,h1,h2,h3⟩
    · obtain ⟨s',p',h1,h2,h3⟩:=seg_again (ids:=[0,1,2,3]) (r:={exs:=[[]],zs:=[3],vs:=[.int sv st]}) (N:=N_nm31) (fuel:=200) (p:=p) R hO (by decide) no_alts (nm31 P w t (Int.ofNat v) r sv st m (gxO s _ p)) (C 3 e)
      rw [e2] at h3
      exact ⟨s',p',_,h1,h2,h3⟩
theorem num_loop {P:NP} {w:World} {m:MX} {O:List Frame} (hO:OutIs O m.out) (hx:Ints P.xs) (hl:P.xs.length≤100) : ∀ (r v sh:Nat) (hsh:sh=0∨sh=1) (t:NS) (s:Shared) (p:Pos),v+r=P.xs.length→Ready w s (P.led w.params sh t (Int.ofNat v) (Int.ofNat r)) →
    ∃ s' sh' t',EndsAt (model pw w) s (numLoop P.aI P.aF) p O s' (.ok .next)∧Kept s s' (P.led w.params sh t (Int.ofNat v) (Int.ofNat r)).as∧AllAt s' (P.led w.params sh' t' (Int.ofNat P.xs.length) 0)∧(sh' = 0∨sh' = 1)
  | 0,v,sh,hsh,t,s,p,hv,R=>by
    have e:P.xs.length=v:=by lia
    rw [e]
    rcases hsh with rfl | rfl
    · obtain ⟨s',h1,h2,h3⟩:=seg_ret (ids:=[0,1,2,3]) (r:={exs:=[[]],zs:=[0],vs:=[.int 0 0]}) (N:=N_ne0) (fuel:=200) (p:=p) R hO (by decide) no_alts (ne0 P w t (Int.ofNat v) m (gxO s _ p)) no_cond
      exact ⟨s',0,t,h1,h2,h3, .inl rfl⟩
    · obtain ⟨s',h1,h2,h3⟩:=seg_ret (ids:=[0,1,2,3]) (r:={exs:=[[]],zs:=[0],vs:=[.int 0 0]}) (N:=N_ne1) (fuel:=200) (p:=p) R hO (by decide) no_alts (ne1 P w t (Int.ofNat v) m (gxO s _ p)) no_cond
      exact ⟨s',1,t,h1,h2,h3, .inr rfl⟩
  | r+1,v,sh,hsh,t,s,p,hv,R=>by
    obtain ⟨s1,p1,t1,C1,K1,A1⟩:=num_turn (p:=p) hO hx hl hsh hv R
    obtain ⟨s2,sh',t',E2,K2,A2,h2⟩:=num_loop hO hx hl r (v+1) 1 (.inr rfl) t1 s1 p1 (by lia) (R.next K1 A1 rfl)
    exact ⟨s2,sh',t',EndsAt.after C1 E2,K1.trans K2 fun b hb => .inl hb,A2,h2⟩
theorem nFin_ok (x:Int) : -30≤nFin x∧nFin x≤30:=by
  have h1:=Int.fmod_nonneg_of_pos (x+30) (show (0:Int)<61 by decide)
  have h2:=Int.fmod_lt_of_pos (x+30) (show (0:Int)<61 by decide)
  unfold nFin
  omega
structure NumQ (w:World) (s s' : Shared) (aN:Addr) (x:Nat→Int) (u:Nat→Nat):Prop where
  kept:Kept s s' []
  at' : AllAt s' [(aN,intsO [(x 0,u 0),(x 1,u 1),(x 2,u 2),(x 3,u 3)] 4)]
  lo:s.heap.objs.size≤aN
  bd : ∀ i, -30≤x i∧x i≤30
noncomputable def ne00:NE:=⟨0,0,0,0,0,0,0,0,0⟩
theorem eff0 {s s' : Shared} {r:Result} (K:Kept s s' []):EffOk ⟨r,[],[],s'.heap.objs.size,s'.toks,s'.gens.size⟩ s s' :=
  eff_of (ix:=[]) (F:=[]) (news:=[]) K (fun _ h=>nomatch h) (fun _ h=>nomatch h) (fun _ h=>nomatch h) List.nodup_nil List.nodup_nil rfl
inductive numbers_ok_r (P:NP) (w:World) (s:Shared) (p:Pos) (O:List Frame):Prop
  | mk : ∀ s' aN xx u,(EndsAt (model pw w) s (.call (.ref 203) ⟨[.ref P.aS],[]⟩) p O s' (.ok (.ret (.ref aN))))→(NumQ w s s' aN xx u)→numbers_ok_r P w s p O
theorem numbers_ok {P:NP} {w:World} {x:LX} {s:Shared} {p:Pos} {O:List Frame} (hO:OutIs O x.out) (R:Ready w s [(P.aS,listO P.xs P.eS)]) (hx:Ints P.xs) (hl:P.xs.length≤100):numbers_ok_r P w s p O:=by
  have F0:=nw0 P w (ns0 0) x (gxO s [(P.aS,listO P.xs P.eS)] p)
  obtain ⟨r,s',hE,aN,xx,u,rfl,hQ⟩:=seg_ok (P:=fun r s' => ∃ aN xx u,r = .ok (.ret (.ref aN))∧NumQ w s s' aN xx u)
    (p:=p) (N:=N_nw0) (fuel:=500) (ids:=[0,6]) (r:={exs:=[[0],[4,1,0,2]]}) (L:=[(P.aS,listO P.xs P.eS)]) R hO (by decide) no_alts
    (ok_cut (F0 ne00).1.1 no_cond (fun s1 p1 O1 base off tk Ps hb hO1=>by
      have hle1:=pst_le Ps
      have A1:AllAt s1 [(P.aS,listO P.xs P.eS)]:=pst_at Ps
      obtain ⟨t,s2,hE,hK⟩:=call_len_list (p:=p1) hO1 (A1 _ (.head _)) (by lia)
      have hle2:=hK.le
      let E1:NE:={ne00 with n:=P.xs.length,t0:=t,b0:=s2.heap.objs.size,k0:=s2.toks,g0:=s2.gens.size}
      refine ⟨E1.e0,s2,hE,eff0 hK, ?_⟩
      have F1:=(F0 E1).2.1
      have hr:=rng_ok P.xs.length hl
      refine ok_cut F1.1 (AllP.cons hr.1 .nil) (fun s3 p3 O3 base off tk Ps3 hb3 hO3 => ?_)
      have hSl:P.aS<s.heap.objs.size:=R.lt (.head _)
      have A3:AllAt s3 ((P.in (gxO s [(P.aS,listO P.xs P.eS)] p) E1).led w.params 0 (ns0 s.toks) 0 (Builtin.Range.rangeSize 0 (Int.ofNat P.xs.length) 1)):=pst_at Ps3
      rw [hr.2] at A3
      have nd3:((P.in (gxO s [(P.aS,listO P.xs P.eS)] p) E1).led w.params 0 (ns0 s.toks) 0 (Int.ofNat P.xs.length)).as.Nodup:=by
        refine nd_of A3 ?_
        simp only [NP.led,List.pairwise_cons,List.mem_cons,List.not_mem_nil,or_false,forall_eq_or_imp,forall_eq,List.Pairwise.nil,and_true]
        simp [kn,ritO,NP.frame,frameO,listO,NS.ints,intsO]
        show ¬ P.aS=s.heap.objs.size+1
        exact fun e=>absurd (Nat.lt_trans (Nat.lt_succ_self _) (e ▸ hSl)) (Nat.lt_irrefl _)
      have ap3:kNone w ((P.in (gxO s [(P.aS,listO P.xs P.eS)] p) E1).led w.params 0 (ns0 s.toks) 0 (Int.ofNat P.xs.length)):=by
        intro y hy
        rcases List.mem_cons.mp hy with rfl | hy
        · exact Ready.newNone R.old (a:=s2.heap.objs.size+1) (by lia)
        rcases List.mem_cons.mp hy with rfl | hy
        · exact Ready.newNone R.old (Nat.le_refl _)
        rcases List.mem_cons.mp hy with rfl | hy
        · exact R.ap _ (.head _)
        rcases List.mem_cons.mp hy with rfl | hy
        · exact Ready.newNone R.old (Nat.le_succ _)
        · exact nomatch hy
      have R3:Ready w s3 ((P.in (gxO s [(P.aS,listO P.xs P.eS)] p) E1).led w.params 0 (ns0 s.toks) (Int.ofNat 0) (Int.ofNat P.xs.length)):=⟨A3,nd3,ap3,pst_old Ps3,hb3⟩
      have hle3:=pst_le Ps3
      have hO3' : OutIs O3 (MX.out ⟨numD.b,numEnv s.heap.objs.size,((P.runW w x (gxO s [(P.aS,listO P.xs P.eS)] p) N_nw0).rest E1.e0).sp2,x⟩):=hO3.outIs F1.2
      obtain ⟨s4,sh',t',E4,K4,A4,hsh⟩:=num_loop (P:=P.in (gxO s [(P.aS,listO P.xs P.eS)] p) E1) hO3' hx hl P.xs.length 0 0 (.inl rfl) (ns0 s.toks) s3 p3 (Nat.zero_add _) R3
      have hle4:=K4.le
      let E2:NE:={E1 with v:=Int.ofNat P.xs.length,b1:=s4.heap.objs.size,k1:=s4.toks,g1:=s4.gens.size}
      refine ⟨E2.e1 (P.in (gxO s [(P.aS,listO P.xs P.eS)] p) E1) w.params sh' t',s4,E4, ?_, ?_⟩
      · refine eff_of (ix:=[4,1,2]) (F:=[(s2.heap.objs.size+1,ritO (Int.ofNat P.xs.length) 0),(s.heap.objs.size,(P.in (gxO s [(P.aS,listO P.xs P.eS)] p) E1).frame w.params sh' t'),(s.heap.objs.size+1,t'.ints)]) (news:=[]) ?_ (fun y hy => ?_) (fun _ h=>nomatch h) (fun _ h=>nomatch h) List.nodup_nil (by decide) rfl
        · refine Kept.drop (L:=[(s2.heap.objs.size+1,ritO (Int.ofNat P.xs.length) 0),(s.heap.objs.size,(P.in (gxO s [(P.aS,listO P.xs P.eS)] p) E1).frame w.params sh' t'),(s.heap.objs.size+1,t'.ints)]) (M:=[(P.aS,listO P.xs P.eS)]) (K4.mono fun a ha => ?_) (fun y hy => ?_) (fun y hy => ?_)
          · rcases List.mem_cons.mp ha with rfl | ha
            · exact .head _
            rcases List.mem_cons.mp ha with rfl | ha
            · exact .tail _ (.head _)
            rcases List.mem_cons.mp ha with rfl | ha
            · exact .tail _ (.tail _ (.tail _ (.head _)))
            rcases List.mem_cons.mp ha with rfl | ha
            · exact .tail _ (.tail _ (.head _))
            · exact nomatch ha
          · rcases List.mem_cons.mp hy with rfl | hy
            · exact A3 _ (.tail _ (.tail _ (.head _)))
            · exact nomatch hy
          · rcases List.mem_cons.mp hy with rfl | hy
            · exact A4 _ (.tail _ (.tail _ (.head _)))
            · exact nomatch hy
        · rcases List.mem_cons.mp hy with rfl | hy
          · exact A4 _ (.head _)
          rcases List.mem_cons.mp hy with rfl | hy
          · exact A4 _ (.tail _ (.head _))
          rcases List.mem_cons.mp hy with rfl | hy
          · exact A4 _ (.tail _ (.tail _ (.tail _ (.head _))))
          · exact nomatch hy
      have fin : ∀ (y0 y1 y2 y3:Int) (u0 u1 u2 u3:Nat) (o1:Out) (_:isRet o1 (.ok (.ret (.ref (s4.heap.objs.size+1)))) ([(P.aS,listO P.xs P.eS),(s4.heap.objs.size+1,intsO [(nFin y0,u0),(nFin y1,u1),(nFin y2,u2),(nFin y3,u3)] 4)].map some) []),
          OutOk (Vk w x.out [0,6] (ghO s [(P.aS,listO P.xs P.eS)]) {exs:=[[0],[4,1,0,2]]}) (fun x s' => match x with | .inl r => ∃ aN xx u,r = .ok (.ret (.ref aN))∧NumQ w s s' aN xx u | .inr _=>False) o1:=fun y0 y1 y2 y3 u0 u1 u2 u3 o1 H =>
        ok_ret H no_cond (fun s' _ _ _ gb P' hb' => by
          have A' :=all_of P'
          refine ⟨_,fun i=>match i with | 0=>nFin y0 | 1=>nFin y1 | 2=>nFin y2 | _=>nFin y3,fun i=>match i with | 0=>u0 | 1=>u1 | 2=>u2 | _=>u3,rfl,⟨?_, ?_,by lia, ?_⟩⟩
          · exact Kept.same (L:=[(P.aS,listO P.xs P.eS)]) (kept_of R.starts P' hb') R.at' (fun y hy=>by
              rcases List.mem_cons.mp hy with rfl | hy
              · exact A' _ (.head _)
              · exact nomatch hy)
          · intro y hy
            rcases List.mem_cons.mp hy with rfl | hy
            · exact A' _ (.tail _ (.head _))
            · exact nomatch hy
          · intro i
            match i with
            | 0=>exact nFin_ok y0
            | 1=>exact nFin_ok y1
            | 2=>exact nFin_ok y2
            | n+3=>exact nFin_ok y3)
      rcases hsh with rfl | rfl
      · exact fin _ _ _ _ _ _ _ _ _ (nw0 P w t' x (gxO s [(P.aS,listO P.xs P.eS)] p) E2).2.2
      · exact fin _ _ _ _ _ _ _ _ _ (nw1 P w t' x (gxO s [(P.aS,listO P.xs P.eS)] p) E2).2.2))
  exact ⟨s',aN,xx,u,hE,hQ⟩
end Mine
end
section
open PySem PySem.W PySem.W.X PySem.Calls PyProof.Rows PySem.SeqAt
namespace Mine
noncomputable def numS (x:Int):Str:=Str.ofString (toString x)
noncomputable def digs (x:Int):List Nat:=(numS x).cps.toList
noncomputable def markOf (x:Int) (i:Nat):Nat:=marksS.cps.toList.getD (Int.fmod (x+Int.ofNat i) 7).toNat 0
noncomputable def replyS (x:Int) (i:Nat):Str:=(((h229++rep ⟨#[markOf x i]⟩ 3)++numS x)++⟨#[markOf x i]⟩)++S [41]
noncomputable def replyL (x:Int) (i:Nat):List Nat:=[50,50,57,40,markOf x i,markOf x i,markOf x i]++(digs x++[markOf x i,41])
noncomputable def digOk (c:Nat):Bool:=0<c && c<128 && !hidQ c && !hidU c && c != 41 && c != 124 && c != 40
theorem digs_dec : ∀ n<61,(1≤(digs (Int.ofNat n - 30)).length∧(digs (Int.ofNat n - 30)).length≤3)∧(digs (Int.ofNat n - 30)).all digOk=true:=by decide +kernel
theorem of_bd {x:Int} (h : -30≤x∧x≤30) : ∃ n<61,x=Int.ofNat n - 30:=⟨(x+30).toNat,by lia,by
  have:Int.ofNat (x+30).toNat=x+30:=Int.toNat_of_nonneg (by lia)
  rw [this]; lia⟩
theorem digs_ok {x:Int} (h : -30≤x∧x≤30):(1≤(digs x).length∧(digs x).length≤3) ∧ ∀ c∈digs x,digOk c=true:=by
  obtain ⟨n,hn,rfl⟩:=of_bd h
  obtain ⟨h1,h2⟩:=digs_dec n hn
  exact ⟨h1,fun c hc=>List.all_eq_true.mp h2 c hc⟩
theorem mark_in (x:Int) (i:Nat):markOf x i∈[124,34,92,32,40,9,10]:=by
  have h1:=Int.fmod_nonneg_of_pos (x+Int.ofNat i) (show (0:Int)<7 by decide)
  have h2:=Int.fmod_lt_of_pos (x+Int.ofNat i) (show (0:Int)<7 by decide)
  have : ∀ n<7,marksS.cps.toList.getD n 0∈[124,34,92,32,40,9,10]:=by decide
  exact this _ (by omega)
theorem mark_at (x:Int) (i:Nat):marksS.cps[(Int.fmod (x+Int.ofNat i) 7).toNat]? = some (markOf x i):=by
  have h1:=Int.fmod_nonneg_of_pos (x+Int.ofNat i) (show (0:Int)<7 by decide)
  have h2:=Int.fmod_lt_of_pos (x+Int.ofNat i) (show (0:Int)<7 by decide)
  have : ∀ n<7,marksS.cps[n]? = some (marksS.cps.toList.getD n 0):=by decide
  exact this _ (by lia)
theorem rep3 (m:Nat):rep ⟨#[m]⟩ 3=⟨#[m,m,m]⟩:=rfl
theorem reply_list (x:Int) (i:Nat):(replyS x i).cps.toList=replyL x i:=by
  unfold replyS replyL
  rw [app_list,app_list,app_list,app_list,rep3]
  show ([50,50,57,40]++[markOf x i,markOf x i,markOf x i]++digs x++[markOf x i])++[41]=_
  simp
theorem wps_turn {P:WP} {i:Nat} (hm:P.m i=markOf (P.x i) i) (hR:P.R i=replyS (P.x i) i) (h : -30≤P.x i∧P.x i≤30):AllP (cTurn P i):=by
  have hd:(numS (P.x i)).length≤3:=by rw [str_len]; exact (digs_ok h).1.2
  have h1:=Int.fmod_nonneg_of_pos (P.x i+Int.ofNat i) (show (0:Int)<7 by decide)
  have h2:=Int.fmod_lt_of_pos (P.x i+Int.ofNat i) (show (0:Int)<7 by decide)
  have e1:mkS P i=⟨#[P.m i]⟩:=rfl
  have l0:(mkS P i).length=1:=rfl
  have l1:(rep (mkS P i) 3).length=3:=rfl
  have l2:h229.length=4:=rfl
  have l3:(S [41]).length=1:=rfl
  have l4:(wA P i).length=7:=by unfold wA; rw [app_len,l1,l2]
  have l5:(wB P i).length≤10:=by unfold wB; rw [app_len,l4]; show 7+(numS (P.x i)).length≤10; lia
  have l6:(wC P i).length≤11:=by unfold wC; rw [app_len,l0]; lia
  unfold cTurn
  refine AllP.cons ?_ (AllP.app (AllP.cons (by lia) .nil) (AllP.app (AllP.cons (by lia) .nil) (AllP.app (AllP.cons (by show (wA P i).length+(numS (P.x i)).length≤_; lia) .nil) (AllP.cons (by lia) (AllP.app (AllP.cons (by lia) .nil) (AllP.app (AllP.cons (by decide) (AllP.cons (by lia) .nil)) (AllP.cons h1 (AllP.cons (by lia) (AllP.cons ?_ .nil)))))))))
  · rw [hR]
    unfold wD wC wB wA replyS mkS
    rw [hm]
    rfl
  · rw [hm]; exact mark_at _ _
structure WordQ (w:World) (s s' : Shared) (P:WP) (aW:Addr) (tw:Nat→Nat):Prop where
  kept:Kept s s' []
  at' : AllAt s' [(aW,listO [.str (S [34]) P.t0, .str (replyS (P.x 0) 0) (tw 0), .str (S [92]) P.t1, .str (replyS (P.x 1) 1) (tw 1), .str (S [32]) P.t2, .str (replyS (P.x 2) 2) (tw 2), .str (S [10]) P.t3, .str (replyS (P.x 3) 3) (tw 3)] 8)]
  lo:s.heap.objs.size≤aW
theorem words_ok {P:WP} {w:World} {b:List Stmt} {e:PySem.Env} {p3 p4:Pos} {s:Shared} {p:Pos} {O:List Frame} (hO:OutIs O (outLaw b e p3 p4)) (R:Ready w s P.led) (hm : ∀ i,P.m i=markOf (P.x i) i) (hR : ∀ i,P.R i=replyS (P.x i) i) (hb : ∀ i, -30≤P.x i∧P.x i≤30) :
    ∃ s' aW tw,EndsAt (model pw w) s (.call (.ref 210) ⟨[.ref P.aN, .ref P.aX],[]⟩) p O s' (.ok (.ret (.ref aW)))∧WordQ w s s' P aW tw:=by
  obtain ⟨s',hE,hK,hA⟩:=seg_ret (ids:=[0,1,3]) (N:=N_words) (fuel:=1000) (p:=p) (r:={ss:=[P.R 0,P.R 1,P.R 2,P.R 3],cs:=[P.m 0,P.m 1,P.m 2,P.m 3]}) R hO (by decide) no_alts (words_run P w b e p3 p4 (gxO s P.led p))
    (AllP.app (wps_turn (hm 3) (hR 3) (hb 3)) (AllP.app (wps_turn (hm 2) (hR 2) (hb 2)) (AllP.app (wps_turn (hm 1) (hR 1) (hb 1)) (wps_turn (hm 0) (hR 0) (hb 0)))))
  refine ⟨s',_,fun i=>(P.run w b e p3 p4 (gxO s P.led p)).dt 2 (2*i+1),hE,⟨hK.same R.at' (fun y hy=>hA y (List.mem_append.mpr (.inl hy))),fun y hy => ?_,Nat.le_succ _⟩⟩
  rcases List.mem_cons.mp hy with rfl | hy
  · have h:=hA _ (List.mem_append.mpr (.inr (.head _)))
    rw [hR 0,hR 1,hR 2,hR 3] at h
    exact h
  · exact nomatch hy
end Mine
end
section
open PySem PySem.W PySem.W.X PySem.Calls PyProof.Rows PySem.SeqAt
namespace Mine
theorem hid_dig {q:Bool} {c:Nat} (h:digOk c=true) : ∃ d,c=d+1∧d<127∧false=hidB q (d+1):=by
  unfold digOk at h
  simp only [Bool.and_eq_true,decide_eq_true_eq,Bool.not_eq_true'] at h
  obtain ⟨⟨⟨⟨⟨⟨h1,h2⟩,h3⟩,h4⟩,_⟩,_⟩,_⟩:=h
  refine ⟨c - 1,by omega,by omega, ?_⟩
  rw [show c - 1+1=c by omega]
  cases q with
  | true=>exact h3.symm
  | false=>exact h4.symm
theorem mark_d (x:Int) (i:Nat) : ∃ d,markOf x i=d+1∧d<127:=by
  have h:=mark_in x i
  generalize markOf x i=m at *
  have : ∀ m∈[124,34,92,32,40,9,10],∃ d,m=d+1∧d<127:=fun m hm=>by
    refine ⟨m - 1, ?_⟩
    simp only [List.mem_cons,List.not_mem_nil,or_false] at hm
    lia
  exact this m h
theorem hid50 (q:Bool):false=hidB q (49+1):=by cases q <;> rfl
theorem hid57 (q:Bool):false=hidB q (56+1):=by cases q <;> rfl
theorem hid40 (q:Bool):false=hidB q (39+1):=by cases q <;> rfl
theorem hid41 (q:Bool):false=hidB q (40+1):=by cases q <;> rfl
theorem shape_reply (q:Bool) {x:Int} (i:Nat) (h : -30≤x∧x≤30):Shape q (replyL x i):=by
  obtain ⟨⟨h1,h2⟩,h3⟩:=digs_ok h
  obtain ⟨d,hd,hd2⟩:=mark_d x i
  unfold replyL
  rw [hd]
  generalize digs x=ds at *
  cases hm:hidB q (d+1) with
  | true =>
    match ds,h1,h2,h3 with
    | [a],_,_,h3 =>
      obtain ⟨a',rfl,ha,ha'⟩:=hid_dig (q:=q) (h3 a (.head _))
      exact .ra1 49 49 56 39 d d d a' d 40 ⟨by decide,hid50 q⟩ ⟨by decide,hid50 q⟩ ⟨by decide,hid57 q⟩ ⟨by decide,hid40 q⟩ ⟨hd2,hm.symm⟩ ⟨hd2,hm.symm⟩ ⟨hd2,hm.symm⟩ ⟨ha,ha'⟩ ⟨hd2,hm.symm⟩ ⟨by decide,hid41 q⟩
    | [a,b],_,_,h3 =>
      obtain ⟨a',rfl,ha,ha'⟩:=hid_dig (q:=q) (h3 a (.head _))
      obtain ⟨b',rfl,hb,hb'⟩:=hid_dig (q:=q) (h3 b (.tail _ (.head _)))
      exact .rb1 49 49 56 39 d d d a' b' d 40 ⟨by decide,hid50 q⟩ ⟨by decide,hid50 q⟩ ⟨by decide,hid57 q⟩ ⟨by decide,hid40 q⟩ ⟨hd2,hm.symm⟩ ⟨hd2,hm.symm⟩ ⟨hd2,hm.symm⟩ ⟨ha,ha'⟩ ⟨hb,hb'⟩ ⟨hd2,hm.symm⟩ ⟨by decide,hid41 q⟩
    | [a,b,c],_,_,h3 =>
      obtain ⟨a',rfl,ha,ha'⟩:=hid_dig (q:=q) (h3 a (.head _))
      obtain ⟨b',rfl,hb,hb'⟩:=hid_dig (q:=q) (h3 b (.tail _ (.head _)))
      obtain ⟨c',rfl,hc,hc'⟩:=hid_dig (q:=q) (h3 c (.tail _ (.tail _ (.head _))))
      exact .rc1 49 49 56 39 d d d a' b' c' d 40 ⟨by decide,hid50 q⟩ ⟨by decide,hid50 q⟩ ⟨by decide,hid57 q⟩ ⟨by decide,hid40 q⟩ ⟨hd2,hm.symm⟩ ⟨hd2,hm.symm⟩ ⟨hd2,hm.symm⟩ ⟨ha,ha'⟩ ⟨hb,hb'⟩ ⟨hc,hc'⟩ ⟨hd2,hm.symm⟩ ⟨by decide,hid41 q⟩
    | [],h1,_,_=>exact absurd h1 (by simp)
    | _ :: _ :: _ :: _ :: l,_,h2,_=>exact absurd h2 (by simp)
  | false =>
    match ds,h1,h2,h3 with
    | [a],_,_,h3 =>
      obtain ⟨a',rfl,ha,ha'⟩:=hid_dig (q:=q) (h3 a (.head _))
      exact .ra0 49 49 56 39 d d d a' d 40 ⟨by decide,hid50 q⟩ ⟨by decide,hid50 q⟩ ⟨by decide,hid57 q⟩ ⟨by decide,hid40 q⟩ ⟨hd2,hm.symm⟩ ⟨hd2,hm.symm⟩ ⟨hd2,hm.symm⟩ ⟨ha,ha'⟩ ⟨hd2,hm.symm⟩ ⟨by decide,hid41 q⟩
    | [a,b],_,_,h3 =>
      obtain ⟨a',rfl,ha,ha'⟩:=hid_dig (q:=q) (h3 a (.head _))
      obtain ⟨b',rfl,hb,hb'⟩:=hid_dig (q:=q) (h3 b (.tail _ (.head _)))
      exact .rb0 49 49 56 39 d d d a' b' d 40 ⟨by decide,hid50 q⟩ ⟨by decide,hid50 q⟩ ⟨by decide,hid57 q⟩ ⟨by decide,hid40 q⟩ ⟨hd2,hm.symm⟩ ⟨hd2,hm.symm⟩ ⟨hd2,hm.symm⟩ ⟨ha,ha'⟩ ⟨hb,hb'⟩ ⟨hd2,hm.symm⟩ ⟨by decide,hid41 q⟩
    | [a,b,c],_,_,h3 =>
      obtain ⟨a',rfl,ha,ha'⟩:=hid_dig (q:=q) (h3 a (.head _))
      obtain ⟨b',rfl,hb,hb'⟩:=hid_dig (q:=q) (h3 b (.tail _ (.head _)))
      obtain ⟨c',rfl,hc,hc'⟩:=hid_dig (q:=q) (h3 c (.tail _ (.tail _ (.head _))))
      exact .rc0 49 49 56 39 d d d a' b' c' d 40 ⟨by decide,hid50 q⟩ ⟨by decide,hid50 q⟩ ⟨by decide,hid57 q⟩ ⟨by decide,hid40 q⟩ ⟨hd2,hm.symm⟩ ⟨hd2,hm.symm⟩ ⟨hd2,hm.symm⟩ ⟨ha,ha'⟩ ⟨hb,hb'⟩ ⟨hc,hc'⟩ ⟨hd2,hm.symm⟩ ⟨by decide,hid41 q⟩
    | [],h1,_,_=>exact absurd h1 (by simp)
    | _ :: _ :: _ :: _ :: l,_,h2,_=>exact absurd h2 (by simp)
theorem shape_name (q:Bool) {d:Nat} (h:d<127):Shape q [d+1]:=by
  cases hm:hidB q (d+1) with
  | true=>exact .n1 d ⟨h,hm.symm⟩
  | false=>exact .n0 d ⟨h,hm.symm⟩
noncomputable def nmOf:Nat→Nat | 0=>34 | 1=>92 | 2=>32 | _=>10
noncomputable def wordL (x:Nat→Int) (k:Nat):List Nat:=if k % 2=0 then [nmOf (k / 2)] else replyL (x (k / 2)) (k / 2)
theorem shape_word (q:Bool) {x:Nat→Int} (h : ∀ i, -30≤x i∧x i≤30) (k:Nat):Shape q (wordL x k):=by
  unfold wordL
  split
  · have : ∃ d,nmOf (k / 2)=d+1∧d<127:=by
      unfold nmOf
      split
      · exact ⟨33,rfl,by decide⟩
      · exact ⟨91,rfl,by decide⟩
      · exact ⟨31,rfl,by decide⟩
      · exact ⟨9,rfl,by decide⟩
    obtain ⟨d,e,hd⟩:=this
    rw [e]
    exact shape_name q hd
  · exact shape_reply q _ (h _)
end Mine
end
section
open PySem PySem.W PySem.W.X PySem.Calls PyProof.Rows PySem.SeqAt
namespace Mine
noncomputable def Out.flds (o:Out) (i:Nat):Array Value:=match (o.ob i).data with | .fields vs=>vs | _ => #[]
theorem lex_tab (w:World) (T:Str) (tT:Nat) (x:LX) (c:GX):(lexNew w T tT x c).ob 0=⟨.none,none, .fields ((lexNew w T tT x c).flds 0), #[]⟩:=by kernel_rfl
structure LexQ (w:World) (s s' : Shared) (T:Str) (Q:RD) (u:RS) (o:Obj):Prop where
  kept:Kept s s' [193]
  at' : AllAt s' ((193,o) :: Q.obj w.params u)
  nd:(Q.obj w.params u).as.Nodup
  lo : ∀ a∈(Q.obj w.params u).as,s.heap.objs.size≤a
  x:Q.x=T
  i:u.i=0
  ln:u.ln=1
  tab : ∃ vs,o=⟨.none,none, .fields vs, #[]⟩
theorem ndO (b:Nat):([b+21,b+20,b+23,b+18,b+19,b+11,b+10,b+2,b+1,b+3]:List Nat).Nodup:=by
  simp only [List.nodup_cons,List.mem_cons,List.not_mem_nil,or_false,not_false_eq_true,List.nodup_nil,and_true]
  lia
theorem loO (b:Nat) : ∀ a∈([b+21,b+20,b+23,b+18,b+19,b+11,b+10,b+2,b+1,b+3]:List Nat),b≤a:=by
  intro a ha
  simp only [List.mem_cons,List.not_mem_nil,or_false] at ha
  lia
inductive lexer_ok_r (w:World) (T:Str) (tT:Nat) (s:Shared) (p:Pos) (O:List Frame):Prop
  | mk : ∀ s' Q u o,(EndsAt (model pw w) s (.call (.ref 198) ⟨[.str T tT],[]⟩) p O s' (.ok (.ret (.ref Q.aR))))→(LexQ w s s' T Q u o)→lexer_ok_r w T tT s p O
theorem lexer_ok {w:World} {T:Str} {tT:Nat} {x:LX} {s:Shared} {p:Pos} {O:List Frame} (hO:OutIs O x.out) (R:Ready w s [(193,⟨.none,none, .fields #[], #[]⟩)]):lexer_ok_r w T tT s p O:=by
  obtain ⟨s',hE,hK,hA⟩:=seg_ret (ids:=[0,22,21,24,19,20,12,11,3,2,4]) (N:=N_lexn) (fuel:=500) (p:=p) (r:={}) R hO (by decide) no_alts (lex_new w T tT x (gxO s [(193,⟨.none,none, .fields #[], #[]⟩)] p)) no_cond
  exact ⟨s',newRD w T tT x (gxO s [(193,⟨.none,none, .fields #[], #[]⟩)] p),newRS w T tT x (gxO s [(193,⟨.none,none, .fields #[], #[]⟩)] p),_,hE,hK,hA,ndO s.heap.objs.size,loO s.heap.objs.size,rfl,rfl,rfl,_,lex_tab w T tT x (gxO s [(193,⟨.none,none, .fields #[], #[]⟩)] p)⟩
end Mine
end
section
open PySem PySem.W PySem.W.X PySem.Calls PyProof.Rows PySem.SeqAt
namespace Mine
noncomputable def innerS (x:Int) (i:Nat):Str:=slc (replyS x i) (some (4,0)) (some (Int.ofNat ((replyS x i).length - 1),0))
noncomputable def parseOk (x:Int) (i:Nat):Bool:=
  (Builtin.Str.occurrences (replyS x i) (S [40]) 0 (replyS x i).length 1 == [3]) &&
  (Builtin.Str.occurrences (replyS x i) (S [41]) (fromIndex (replyS x i).length 4) (replyS x i).length 1 == [(replyS x i).length - 1]) &&
  ((slc (replyS x i) none (some (3,0))).cps.toList == [50,50,57]) &&
  ((replyS x i).cps[4]? == some (markOf x i)) && ((replyS x i).cps[(replyS x i).length - 2]? == some (markOf x i)) && ((replyS x i).length == 9+(numS x).length) &&
  ((innerS x i).length == 4+(numS x).length) &&
  (decide (Builtin.Str.strKind (innerS x i)<Builtin.Str.strKind ⟨#[markOf x i]⟩) == false) &&
  ((Builtin.Str.partsBetween (innerS x i) (Builtin.Str.occurrences (innerS x i) ⟨#[markOf x i]⟩ 0 (innerS x i).length ((innerS x i).length+1)) 1).map (fun z=>z.cps.toList) == [[],[],[],digs x,[]]) &&
  ((Builtin.Str.occurrences (innerS x i) ⟨#[markOf x i]⟩ 0 (innerS x i).length ((innerS x i).length+1)).isEmpty == false) &&
  (PySem.intText? (numS x) == some x)
theorem parse_dec : ∀ n<61,∀ i<4,parseOk (Int.ofNat n - 30) i=true:=by decide +kernel
end Mine
end
section
open PySem PySem.W PySem.W.X PySem.Calls PyProof.Rows PySem.SeqAt
namespace Mine
theorem strL_inj : ∀ {l m:List Str},l.map (fun z=>z.cps.toList)=m.map (fun z=>z.cps.toList)→l=m
  | [],[],_=>rfl
  | [],_ :: _,h=>nomatch h
  | _ :: _,[],h=>nomatch h
  | ⟨⟨a⟩⟩ :: l,⟨⟨b⟩⟩ :: m,h=>by
    simp only [List.map_cons,List.cons.injEq] at h
    rw [strL_inj h.2]
    have:a=b:=h.1
    rw [this]
structure ParseF (x:Int) (i:Nat):Prop where
  f1:Builtin.Str.occurrences (replyS x i) (S [40]) 0 (replyS x i).length 1=[3]
  f2:Builtin.Str.occurrences (replyS x i) (S [41]) (fromIndex (replyS x i).length 4) (replyS x i).length 1=[(replyS x i).length - 1]
  f3:slc (replyS x i) none (some (3,0))=S [50,50,57]
  f4:(replyS x i).cps[4]? = some (markOf x i)
  f5:(replyS x i).cps[(replyS x i).length - 2]? = some (markOf x i)
  f6:(replyS x i).length=9+(numS x).length
  f7:(innerS x i).length=4+(numS x).length
  f8:decide (Builtin.Str.strKind (innerS x i)<Builtin.Str.strKind ⟨#[markOf x i]⟩)=false
  f9:Builtin.Str.partsBetween (innerS x i) (Builtin.Str.occurrences (innerS x i) ⟨#[markOf x i]⟩ 0 (innerS x i).length ((innerS x i).length+1)) 1=[S [],S [],S [],numS x,S []]
  f10:(Builtin.Str.occurrences (innerS x i) ⟨#[markOf x i]⟩ 0 (innerS x i).length ((innerS x i).length+1)).isEmpty=false
  f11:PySem.intText? (numS x)=some x
  f12:1≤(numS x).length∧(numS x).length≤3
theorem parse_facts {x:Int} (h : -30≤x∧x≤30) {i:Nat} (hi:i<4):ParseF x i:=by
  have hd:=(digs_ok h).1
  obtain ⟨n,hn,rfl⟩:=of_bd h
  have z:=parse_dec n hn i hi
  unfold parseOk at z
  simp only [Bool.and_eq_true,beq_iff_eq] at z
  obtain ⟨⟨⟨⟨⟨⟨⟨⟨⟨⟨h1,h2⟩,h3⟩,h4⟩,h5⟩,h6⟩,h7⟩,h8⟩,h9⟩,h10⟩,h11⟩:=z
  refine ⟨h1,h2, ?_,h4,h5,h6,h7,h8,strL_inj h9,h10,h11, ?_⟩
  · exact List.singleton_inj.mp (strL_inj (l:=[slc (replyS (Int.ofNat n - 30) i) none (some (3,0))]) (m:=[S [50,50,57]]) (by rw [List.map_cons,List.map_nil,h3]; rfl))
  · rw [str_len]; exact hd
theorem call_find {w:World} {s:Shared} {p:Pos} {O:List Frame} {stk:Stk} (hO:AtCall p O stk) {x y:Str} {t u k:Nat} {l:List Nat} (h:Builtin.Str.occurrences x y 0 x.length 1=k :: l) :
    ∃ q s',EndsAt (model pw w) s (.call (.builtin "str.find") ⟨[.str x t, .str y u],[]⟩) p O s' (.ok (.ret (.int (Int.ofNat k) q)))∧Kept s s' []:=by
  have g:=gives_str_find x y t u
  rw [h] at g
  obtain ⟨v,s',hE,rfl,rfl⟩:=lib_call (w:=w) (f:= .builtin "str.find") (args:=[.str x t, .str y u]) hO (s:=s) (Q:=fun v s' => v = .int (Int.ofNat k) s.toks∧s' = {s with toks:=s.toks+1}) (fun A hh _ =>
    call_meets F.slot_str_find (typeIs_str s x t) F.entry_str_find (F.args_str_find_2 _ _) g.meets (show (Made.int _).post _ s from ⟨rfl,rfl⟩))
  exact ⟨_,_,hE,⟨fun b o e _=>e,Nat.le_refl _,fun h=>h,rfl,rfl⟩⟩
theorem call_find_from {w:World} {s:Shared} {p:Pos} {O:List Frame} {stk:Stk} (hO:AtCall p O stk) {x y:Str} {t u v k:Nat} {i:Int} {l:List Nat} (h:Builtin.Str.occurrences x y (fromIndex x.length i) x.length 1=k :: l) :
    ∃ q s',EndsAt (model pw w) s (.call (.builtin "str.find") ⟨[.str x t, .str y u, .int i v],[]⟩) p O s' (.ok (.ret (.int (Int.ofNat k) q)))∧Kept s s' []:=by
  have g:=gives_str_find_from x y i t u v
  rw [h] at g
  obtain ⟨v,s',hE,rfl,rfl⟩:=lib_call (w:=w) (f:= .builtin "str.find") (args:=[.str x t, .str y u, .int i v]) hO (s:=s) (Q:=fun v s' => v = .int (Int.ofNat k) s.toks∧s' = {s with toks:=s.toks+1}) (fun A hh _ =>
    call_meets F.slot_str_find (typeIs_str s x t) F.entry_str_find (F.args_str_find_3 _ _ _) g.meets (show (Made.int _).post _ s from ⟨rfl,rfl⟩))
  exact ⟨_,_,hE,⟨fun b o e _=>e,Nat.le_refl _,fun h=>h,rfl,rfl⟩⟩
theorem call_int {w:World} {s:Shared} {p:Pos} {O:List Frame} {stk:Stk} (hO:AtCall p O stk) {x:Str} {t:Nat} {n:Int} (hn:PySem.intText? x=some n) (hl:x.length≤640) :
    ∃ q s',EndsAt (model pw w) s (.call (.type "int") ⟨[.str x t],[]⟩) p O s' (.ok (.ret (.int n q)))∧Kept s s' []:=by
  obtain ⟨v,s',hE,rfl,rfl⟩:=lib_call (w:=w) (f:= .type "int") (args:=[.str x t]) hO (s:=s) (Q:=fun v s' => v = .int n s.toks∧s' = {s with toks:=s.toks+1}) (fun A hh _ =>
    KIN.call_text hn hl ⟨rfl,rfl⟩)
  exact ⟨_,_,hE,⟨fun b o e _=>e,Nat.le_refl _,fun h=>h,rfl,rfl⟩⟩
theorem call_split {w:World} {s:Shared} {p:Pos} {O:List Frame} {stk:Stk} (hO:AtCall p O stk) {x y:Str} {t u:Nat} {ps:List Str} (h1:(decide (x.length<y.length) || decide (Builtin.Str.strKind x<Builtin.Str.strKind y))=false) (hy:(y.length == 0)=false)
    (hf:(Builtin.Str.occurrences x y 0 x.length (x.length+1)).isEmpty=false) (hx:x.length≤1000) (hps:Builtin.Str.partsBetween x (Builtin.Str.occurrences x y 0 x.length (x.length+1)) y.length=ps) (hp:ps.length≤100) :
    ∃ s',EndsAt (model pw w) s (.call (.builtin "str.split") ⟨[.str x t, .str y u],[]⟩) p O s' (.ok (.ret (.ref s.heap.objs.size)))∧Kept s s' []∧AllAt s' [(s.heap.objs.size,listO (strsFrom s.toks ps) 0)]:=by
  have g:=meets_str_split_sep x y t u h1 hy hf (by show _≤16777216; lia) (by rw [hps]; show _≤16777216; lia)
  rw [hps] at g
  obtain ⟨v,s',hE,rfl,rfl⟩:=lib_call (w:=w) (f:= .builtin "str.split") (args:=[.str x t, .str y u]) hO (s:=s) (Q:=fun v s' => v = .ref s.heap.objs.size∧s' = {s with toks:=s.toks+ps.length,heap:=s.heap.push (listO (strsFrom s.toks ps) 0)}) (fun A hh _ =>
    call_meets F.slot_str_split (typeIs_str s x t) F.entry_str_split (F.args_str_split_2 _ _) g ⟨rfl,rfl⟩)
  refine ⟨_,hE,⟨fun b o e _=>Heap.get?_push_of_some _ e,by show _≤(s.heap.push _).objs.size; rw [Heap.size_push]; exact Nat.le_succ _,fun h=>h,rfl,rfl⟩,fun y hy => ?_⟩
  rcases List.mem_cons.mp hy with rfl | hy
  · exact Heap.get?_push_size _ rfl
  · exact nomatch hy
noncomputable def pe0:PE:=⟨0,0,0,0,0,0,0,0,0,S [],S [],S [],S [],fun _=>0,0,0,0,0,0,0,0,0,0,0⟩
noncomputable def prOf (x:Int) (i:Nat) (tR:Nat) (aP:Addr) (nm:Str) (tn tx eP:Nat):PR:={R:=replyS x i,tR,aP,nm,tn,tx,eP,m:=markOf x i,rt:=Int.ofNat ((replyS x i).length - 1),I:=innerS x i,N:=numS x,v:=x}
inductive parse_ok_r (w:World) (x:Int) (i:Nat) (tR:Nat) (aP:Addr) (nm:Str) (tn:Nat) (s:Shared) (p:Pos) (O:List Frame):Prop
  | mk : ∀ s' a t3,(EndsAt (model pw w) s (.call (.ref 149) ⟨[.str (replyS x i) tR, .ref aP],[]⟩) p O s' (.ok (.ret (.ref a))))→(Kept s s' [])→(AllAt s' [(a,tupO [.str nm tn, .int x t3] 0)])→(s.heap.objs.size≤a)→parse_ok_r w x i tR aP nm tn s p O
set_option maxHeartbeats 2000000 in
theorem parse_ok {w:World} {x:Int} {i:Nat} (hi:i<4) (hb : -30≤x∧x≤30) {tR:Nat} {aP:Addr} {nm:Str} {tn tx eP:Nat} {o:OP} {s:Shared} {p:Pos} {O:List Frame} (hO:OutIs O o.out) (R:Ready w s [(aP,listO [.str nm tn, .str (S [120]) tx] eP)]):parse_ok_r w x i tR aP nm tn s p O:=by
  have D:=parse_facts hb hi
  have F:=parse_run (prOf x i tR aP nm tn tx eP) w o (gxO s (prOf x i tR aP nm tn tx eP).led p)
  obtain ⟨r,s',hE,a,t3,rfl,hK,hA,hlo⟩:=seg_ok (P:=fun r s' => ∃ a t3,r = .ok (.ret (.ref a))∧Kept s s' []∧AllAt s' [(a,tupO [.str nm tn, .int x t3] 0)]∧s.heap.objs.size≤a)
    (p:=p) (N:=N_parse) (fuel:=400) (ids:=[0,5]) (r:={exs:=[[]],ss:=[S [50,50,57],innerS x i],cs:=[markOf x i]}) (L:=(prOf x i tR aP nm tn tx eP).led) R hO (by decide) no_alts
    (by
      obtain ⟨a0,F0,k0⟩:=(F pe0).1
      refine ok_cut F0 (AllP.cons D.f3 (AllP.cons (by rw [show slc (prOf x i tR aP nm tn tx eP).R none (some (3,(gxO s (prOf x i tR aP nm tn tx eP).led p).tk+2))=S [50,50,57] from D.f3]; decide) .nil)) (fun s1 p1 O1 base off tk Ps hb1 hO1 => ?_)
      have hle1:=pst_le Ps
      obtain ⟨q0,s2,E2,K2⟩:=call_find (p:=p1) hO1 (t:=tR) (u:=a0) D.f1
      let e1:PE:={pe0 with t0:=q0,b0:=s2.heap.objs.size,k0:=s2.toks,g0:=s2.gens.size}
      refine ⟨e1.e0,s2,E2,eff0 K2, ?_⟩
      obtain ⟨a1,b1,F1,k1⟩:=(F e1).2.1
      refine ok_cut F1 no_cond (fun s3 p3 O3 base off tk Ps3 hb3 hO3 => ?_)
      obtain ⟨q1,s4,E4,K4⟩:=call_find_from (p:=p3) hO3 (t:=tR) (u:=a1) (v:=b1) D.f2
      let e2:PE:={e1 with t1:=q1,rt:=Int.ofNat ((replyS x i).length - 1),b1:=s4.heap.objs.size,k1:=s4.toks,g1:=s4.gens.size}
      refine ⟨e2.e1,s4,E4,eff0 K4, ?_⟩
      obtain ⟨a2,b2,c2,F2,k2⟩:=(F e2).2.2.1
      have hlen:=D.f12
      have l6:=D.f6
      have l7:=D.f7
      have e5:(Int.ofNat ((replyS x i).length - 1) - 1).toNat=(replyS x i).length - 2:=by
        show ((((replyS x i).length - 1:Nat):Int) - 1).toNat=_
        lia
      refine ok_cut F2 (AllP.app (AllP.cons (by decide) (AllP.cons (by decide) (AllP.cons D.f4 .nil))) (AllP.app (AllP.cons rfl (AllP.cons (by show (innerS x i).length≤_; lia) .nil)) (AllP.cons (by simp) (AllP.app (AllP.cons ?_ (AllP.cons ?_ (AllP.cons ?_ .nil))) (AllP.app (AllP.cons (by decide) (AllP.cons (by decide) (AllP.cons D.f4 .nil))) (AllP.cons rfl .nil)))))) (fun s5 p5 O5 base off tk Ps5 hb5 hO5 => ?_)
      · show (0:Int)≤(((replyS x i).length - 1:Nat):Int) - 1
        lia
      · show (((replyS x i).length - 1:Nat):Int) - 1<1000
        lia
      · show (replyS x i).cps[(Int.ofNat ((replyS x i).length - 1) - 1).toNat]? = some (markOf x i)
        rw [e5]
        exact D.f5
      obtain ⟨s6,E6,K6,A6⟩:=call_split (p:=p5) hO5 (t:=a2) (u:=b2) (x:=innerS x i) (y:=⟨#[markOf x i]⟩) (ps:=[S [],S [],S [],numS x,S []]) (by rw [D.f8,Bool.or_false]; exact decide_eq_false (by rw [l7]; show ¬ 4+(numS x).length<1; lia)) rfl D.f10 (by lia) D.f9 (by simp)
      let e3:PE:={e2 with aL:=s5.heap.objs.size,s0:=S [],s1:=S [],s2:=S [],s4:=S [],u:=fun j=>s5.toks+j,nL:=0,b2:=s6.heap.objs.size,k2:=s6.toks,g2:=s6.gens.size}
      refine ⟨e3.e2 (prOf x i tR aP nm tn tx eP),s6,E6, ?_, ?_⟩
      · refine eff_of (ix:=[]) (F:=[]) (news:=[(s5.heap.objs.size,listO (strsFrom s5.toks [S [],S [],S [],numS x,S []]) 0)]) K6 (fun _ h=>nomatch h) A6 (fun y hy => ?_) ?_ List.nodup_nil rfl
        · rcases List.mem_cons.mp hy with rfl | hy
          · exact Nat.le_refl _
          · exact nomatch hy
        · exact List.nodup_cons.mpr ⟨(fun h=>nomatch h),List.nodup_nil⟩
      have F3:=(F e3).2.2.2.1
      refine ok_cut F3.1 no_cond (fun s7 p7 O7 base off tk Ps7 hb7 hO7 => ?_)
      have hle7:=pst_le Ps7
      obtain ⟨q3,s8,E8,K8⟩:=call_int (w:=w) (s:=s7) (p:=p7) hO7 (t:=s5.toks+3) D.f11 (by lia)
      have hle8:=K8.le
      let e4:PE:={e3 with t3:=q3,v:=x,b3:=s8.heap.objs.size,k3:=s8.toks,g3:=s8.gens.size}
      refine ⟨e4.e3,s8,E8,eff0 K8, ?_⟩
      refine ok_ret (F e4).2.2.2.2 no_cond (fun s' _ _ _ gb P' hb' => ⟨s8.heap.objs.size,q3,rfl,(kept_of R.starts P' hb').same R.at' (fun y hy => ?_),(fun y hy => ?_),Nat.le_trans hle7 hle8⟩)
      · rcases List.mem_cons.mp hy with rfl | hy
        · exact all_of P' _ (.head _)
        · exact nomatch hy
      · rcases List.mem_cons.mp hy with rfl | hy
        · exact all_of P' _ (.tail _ (.head _))
        · exact nomatch hy)
  exact ⟨s',a,t3,hE,hK,hA,hlo⟩
end Mine
end
section
open PySem PySem.W PySem.W.X PySem.Calls PyProof.Rows PySem.SeqAt
namespace Mine
theorem sub_one (r:Nat):(Int.ofNat (r+1) - 1:Int)=Int.ofNat r:=by simp
noncomputable def TokG (P:RD) (w:World) (u:RS) (used cs:List Nat):Prop:= ∀ (s1:Shared) (p1:Pos) (O1:List Frame) (o:OP),OutIs O1 o.out→Ready w s1 (P.obj w.params u) →
  ∃ s' t' y ty,EndsAt (model pw w) s1 (.call (.ref 177) ⟨[.ref P.aR],[]⟩) p1 O1 s' (.ok (.ret (.str y ty)))∧Got P w s1 u s' t' used∧y.cps.toList=cs
noncomputable def tokLp (C:CC):Code:=cLoop tokC C.it C.acc C.Z C.F (tokCells C.F)
set_option maxHeartbeats 1000000 in
theorem tok_turn {C:CC} {P:RD} {w:World} {x:LX} {O:List Frame} (hO:OutIs O x.out) {sh:Nat} (hsh:sh=0∨sh=1) {t:CT} {u:RS} {v r:Nat} {used cs:List Nat} {s:Shared} {p:Pos} (R:Ready w s (C.ledT P w.params sh t u (Int.ofNat v) (Int.ofNat (r+1)))) (G:TokG P w u used cs) (hl:t.xs.length≤100) :
    ∃ s' p' t' u' y ty,Comes (model pw w) s ⟨(model pw w).den (tokLp C),tokLp C,p,O⟩ s' ⟨(model pw w).den (tokLp C),tokLp C,p',O⟩∧Kept s s' (C.ledT P w.params sh t u (Int.ofNat v) (Int.ofNat (r+1))).as ∧
      AllAt s' (C.ledT P w.params 1 t' u' (Int.ofNat (v+1)) (Int.ofNat r))∧t'.xs=t.xs++[.str y ty]∧y.cps.toList=cs∧u'.i=u.i+(used.length:Int)∧u'.ln=u.ln+nlc used:=by
  have key : ∀ (N:Nat),(∀ c,CtS C P w t u (Int.ofNat v) r x (C.runT P w sh t u (Int.ofNat v) (Int.ofNat (r+1)) x c N)) →
      ∃ s' p' t' u' y ty,Comes (model pw w) s ⟨(model pw w).den (tokLp C),tokLp C,p,O⟩ s' ⟨(model pw w).den (tokLp C),tokLp C,p',O⟩∧Kept s s' (C.ledT P w.params sh t u (Int.ofNat v) (Int.ofNat (r+1))).as ∧
      AllAt s' (C.ledT P w.params 1 t' u' (Int.ofNat (v+1)) (Int.ofNat r))∧t'.xs=t.xs++[.str y ty]∧y.cps.toList=cs∧u'.i=u.i+(used.length:Int)∧u'.ln=u.ln+nlc used:=fun N F=>by
    have F:=F (gxO s (C.ledT P w.params sh t u (Int.ofNat v) (Int.ofNat (r+1))) p)
    obtain ⟨s',p',hC,t',u',y,ty,hQ⟩:=seg_turn (N:=N) (fuel:=200) (p:=p) (ids:=idsL) (r:={exs:=[[4,5,6,7,8,9,10,11,12,13]]}) (L:=C.ledT P w.params sh t u (Int.ofNat v) (Int.ofNat (r+1)))
      (P:=fun s' => ∃ t' u' y ty,Kept s s' (C.ledT P w.params sh t u (Int.ofNat v) (Int.ofNat (r+1))).as∧AllAt s' (C.ledT P w.params 1 t' u' (Int.ofNat (v+1)) (Int.ofNat r))∧t'.xs=t.xs++[.str y ty]∧y.cps.toList=cs∧u'.i=u.i+(used.length:Int)∧u'.ln=u.ln+nlc used) (c' :=tokLp C) R hO (by decide) no_alts
      (ok_cutR F.a no_cond (fun s1 p1 O1 R1 hO1=>by
        obtain ⟨s2,u',y,ty,E2,Q2,hy⟩:=G s1 p1 O1 _ (hO1.outIs F.k) R1
        let e1:CE:=⟨0,y,ty,s2.heap.objs.size,s2.toks,s2.gens.size⟩
        refine ⟨tEff e1 P w.params u',s2,E2, ?_, ?_⟩
        · exact eff_of (ix:=[4,5,6,7,8,9,10,11,12,13]) (F:=P.obj w.params u') (news:=[]) Q2.kept Q2.at' (fun _ h=>nomatch h) (fun _ h=>nomatch h) List.nodup_nil (by decide) rfl
        refine ok_again (F.z e1 u') (AllP.cons (Nat.le_trans hl (by decide)) .nil) (fun s' _ _ _ gb P' hb' => ?_)
        have z:=all_of P'
        rw [sub_one] at z
        exact ⟨rfl,_,u',y,ty,kept_of R.starts P' hb',z,rfl,hy,Q2.i,Q2.ln⟩))
    exact ⟨s',p',t',u',y,ty,hC,hQ⟩
  rcases hsh with rfl | rfl
  · exact key N_ct0 fun c=>ct0 C P w t u (Int.ofNat v) r x c
  · exact key N_ct1 fun c=>ct1 C P w t u (Int.ofNat v) r x c
end Mine
end
section
open PySem PySem.W PySem.W.X PySem.Calls PyProof.Rows PySem.SeqAt
namespace Mine
noncomputable def TokSeq (P:RD) (w:World):Nat→List (List Nat × List Nat)→Prop
  | _,[]=>True
  | n,z :: ts=>(∀ u:RS,u.i=(n:Int)→TokG P w u z.1 z.2)∧TokSeq P w (n+z.1.length) ts
noncomputable def nlAll (ts:List (List Nat × List Nat)):Int:=(ts.map fun z=>nlc z.1).sum
theorem tok_loop {C:CC} {P:RD} {w:World} {x:LX} {O:List Frame} (hO:OutIs O x.out) : ∀ (ts:List (List Nat × List Nat)) (v sh:Nat) (t:CT) (u:RS) (n:Nat) (s:Shared) (p:Pos),(sh=1∨(sh=0∧ts≠[]))→t.xs.length+ts.length≤100→u.i=(n:Int)→TokSeq P w n ts→Ready w s (C.ledT P w.params sh t u (Int.ofNat v) (Int.ofNat ts.length)) →
    ∃ s' t' u' ys,EndsAt (model pw w) s (tokLp C) p O s' (.ok .next)∧Kept s s' (C.ledT P w.params sh t u (Int.ofNat v) (Int.ofNat ts.length)).as∧AllAt s' (C.ledT P w.params 1 t' u' (Int.ofNat (v+ts.length)) 0) ∧
      t'.xs=t.xs++(ys:List (Str × Nat)).map (fun y=>Value.str y.1 y.2)∧ys.map (fun y=>y.1.cps.toList)=ts.map (·.2)∧u'.ln=u.ln+nlAll ts
  | [],v,sh,t,u,n,s,p,hsh,hl,hi,hT,R=>by
    have:sh=1:=by rcases hsh with h | h; exact h; exact absurd rfl h.2
    subst this
    obtain ⟨s',h1,h2,h3⟩:=seg_ret (ids:=idsL) (r:={exs:=[[4,5,6,7,8,9,10,11,12,13]]}) (N:=N_ctE) (fuel:=200) (p:=p) R hO (by decide) no_alts (ctE C P w t u (Int.ofNat v) x (gxO s _ p)) no_cond
    exact ⟨s',t,u,[],h1,h2,h3,by rw [List.map_nil,List.append_nil],rfl,by show u.ln=u.ln+0; lia⟩
  | z :: ts,v,sh,t,u,n,s,p,hsh,hl,hi,hT,R=>by
    rw [List.length_cons] at hl
    obtain ⟨s1,p1,t1,u1,y,ty,C1,K1,A1,hx,hy,hi1,hln⟩:=tok_turn (p:=p) hO (show sh=0∨sh=1 by rcases hsh with h | h; exact .inr h; exact .inl h.1) R (hT.1 u hi) (by lia)
    obtain ⟨s2,t2,u2,ys,E2,K2,A2,hx2,hy2,hn2⟩:=tok_loop hO ts (v+1) 1 t1 u1 (n+z.1.length) s1 p1 (.inl rfl) (by rw [hx,List.length_append,List.length_singleton]; lia) (by rw [hi1,hi]; push_cast; rfl) hT.2 (R.next K1 A1 rfl)
    refine ⟨s2,t2,u2,(y,ty) :: ys,EndsAt.after C1 E2,K1.trans K2 (fun b hb => .inl hb), ?_, ?_, ?_, ?_⟩
    · have:v+(z :: ts).length=v+1+ts.length:=by rw [List.length_cons]; lia
      rw [this]
      exact A2
    · rw [hx2,hx,List.map_cons,List.append_assoc]; rfl
    · rw [List.map_cons,List.map_cons,hy,hy2]
    · rw [hn2,hln]
      show u.ln+nlc z.1+nlAll ts=u.ln+((nlc z.1:Int)+nlAll ts)
      lia
theorem rit_self (v left:Int):selfIter (ritO v left)=true:=by
  show ["list_iterator", "range_iterator", "tuple_iterator", "str_ascii_iterator"].contains "range_iterator" = true
  decide
inductive tok_ok_r (C:CC) (P:RD) (w:World) (O:List Frame) (ts:List (List Nat × List Nat)) (t:CT) (u:RS) (s:Shared) (p:Pos):Prop
  | mk : ∀ s' t' u' ys,(EndsAt (model pw w) s (cStart tokC C.it C.acc C.Z C.F (tokCells C.F)) p O s' (.ok .next))→(Kept s s' (C.ledT P w.params 0 t u 0 (Int.ofNat ts.length)).as)→(AllAt s' (C.ledT P w.params 1 t' u' (Int.ofNat ts.length) 0))→(t'.xs=(ys:List (Str × Nat)).map (fun y=>Value.str y.1 y.2))→(ys.map (fun y=>y.1.cps.toList)=ts.map (·.2))→(u'.ln=u.ln+nlAll ts)→tok_ok_r C P w O ts t u s p
theorem tok_ok {C:CC} {P:RD} {w:World} {x:LX} {O:List Frame} (hO:OutIs O x.out) {ts:List (List Nat × List Nat)} {t:CT} {u:RS} {s:Shared} {p:Pos} (h0:ts≠[]) (hl:ts.length≤50) (hx:t.xs=[]) (hi:u.i=0) (hT:TokSeq P w 0 ts) (R:Ready w s (C.ledT P w.params 0 t u 0 (Int.ofNat ts.length))):tok_ok_r C P w O ts t u s p:=by
  have hit:s.heap.get? C.it=some (ritO 0 (Int.ofNat ts.length)):=R.at' (C.it,_) (.head _)
  obtain ⟨p',hC⟩:=comp_redirect (prog:=pw) (w:=w) (s:=s) (e:=tokC.expr) (d:=0) (acc:= .ref C.acc) (env:=compEnv tokC C.Z C.F (tokCells C.F)) hit (rit_self _ _) (by decide +kernel) p O
  obtain ⟨s',t',u',ys,h1,h2,h3,h4,h5,h6⟩:=tok_loop hO ts 0 0 t u 0 s p' (.inr ⟨rfl,h0⟩) (by rw [hx]; show 0+ts.length≤100; lia) hi hT R
  refine ⟨s',t',u',ys,EndsAt.after hC h1,h2, ?_, ?_,h5,h6⟩
  · rw [Nat.zero_add] at h3; exact h3
  · rw [h4,hx]; rfl
end Mine
end
section
open PySem PySem.W PySem.W.X PySem.Calls PyProof.Rows PySem.SeqAt
namespace Mine
structure PI where
  x:Int
  nm:Str
  tn:Nat
  tR:Nat
noncomputable def PI.led (z:PI) (a:Addr × Nat):Addr × Obj:=(a.1,tupO [.str z.nm z.tn, .int z.x a.2] 0)
noncomputable def pairsL:List PI→List (Addr × Nat)→Led
  | z :: zs,a :: as=>z.led a :: pairsL zs as
  | _,_=>[]
noncomputable def PairOk (ws:List Value):Nat→List PI→Prop
  | _,[]=>True
  | v,z :: zs=>(v<4∧(-30≤z.x∧z.x≤30)∧AllP (cItem ws (2*Int.ofNat v) (.str z.nm z.tn))∧AllP (cItem ws (2*Int.ofNat v+1) (.str (replyS z.x v) z.tR)))∧PairOk ws (v+1) zs
noncomputable def pairLp (C:CC):Code:=cLoop pairC C.it C.acc C.Z C.F (pairCells C.F)
inductive pair_turn_r (C:CC) (w:World) (O:List Frame) (sh:Nat) (t:CT) (aW:Addr) (ws:List Value) (eW:Nat) (v:Nat) (r:Nat) (z:PI) (s:Shared) (p:Pos):Prop
  | mk : ∀ s' p' t' a,(Comes (model pw w) s ⟨(model pw w).den (pairLp C),pairLp C,p,O⟩ s' ⟨(model pw w).den (pairLp C),pairLp C,p',O⟩)→(Kept s s' (C.ledP w.params sh t aW ws eW (Int.ofNat v) (Int.ofNat (r+1))).as)→(AllAt s' (C.ledP w.params 1 t' aW ws eW (Int.ofNat (v+1)) (Int.ofNat r)++[z.led a]))→(t'.xs=t.xs++[.ref a.1])→(s.heap.objs.size≤a.1)→pair_turn_r C w O sh t aW ws eW v r z s p
set_option maxHeartbeats 1000000 in
theorem pair_turn {C:CC} {w:World} {x:LX} {O:List Frame} (hO:OutIs O x.out) {sh:Nat} (hsh:sh=0∨sh=1) {t:CT} {aW:Addr} {ws:List Value} {eW v r:Nat} {z:PI} {s:Shared} {p:Pos} (R:Ready w s (C.ledP w.params sh t aW ws eW (Int.ofNat v) (Int.ofNat (r+1))))
    (hz:v<4∧(-30≤z.x∧z.x≤30)∧AllP (cItem ws (2*Int.ofNat v) (.str z.nm z.tn))∧AllP (cItem ws (2*Int.ofNat v+1) (.str (replyS z.x v) z.tR))) (hl:t.xs.length≤100):pair_turn_r C w O sh t aW ws eW v r z s p:=by
  have key : ∀ (N:Nat),(∀ c,CpS C w t aW ws eW (Int.ofNat v) r (replyS z.x v) z.tR z.nm z.tn x c (C.runP w sh t aW ws eW (Int.ofNat v) (Int.ofNat (r+1)) (replyS z.x v) z.tR z.nm z.tn x c N)) →
      pair_turn_r C w O sh t aW ws eW v r z s p:=fun N F=>by
    have F:=F (gxO s (C.ledP w.params sh t aW ws eW (Int.ofNat v) (Int.ofNat (r+1))) p)
    obtain ⟨s',p',hC,t',a,hQ⟩:=seg_turn (N:=N) (fuel:=200) (p:=p) (ids:=[0,1,2,3,4,6]) (r:={exs:=[[5]],vs:=[.str (replyS z.x v) z.tR, .str z.nm z.tn]}) (L:=C.ledP w.params sh t aW ws eW (Int.ofNat v) (Int.ofNat (r+1)))
      (P:=fun s' => ∃ t' a,Kept s s' (C.ledP w.params sh t aW ws eW (Int.ofNat v) (Int.ofNat (r+1))).as∧AllAt s' (C.ledP w.params 1 t' aW ws eW (Int.ofNat (v+1)) (Int.ofNat r)++[z.led a])∧t'.xs=t.xs++[.ref a.1]∧s.heap.objs.size≤a.1) (c' :=pairLp C) R hO (by decide) no_alts
      (ok_cutL F.a (AllP.app hz.2.2.1 hz.2.2.2) (fun s1 p1 O1 R1 hle1 hO1=>by
        obtain ⟨s2,a,t3,E2,K2,A2,hlo⟩:=parse_ok (p:=p1) hz.1 hz.2.1 (tR:=z.tR) (hO1.outIs F.k) R1
        let e1:CE:=⟨0,S [],0,s2.heap.objs.size,s2.toks,s2.gens.size⟩
        refine ⟨pEff e1 a (tupO [.str z.nm z.tn, .int z.x t3] 0),s2,E2,eff_new K2 A2 (lo_one hlo) (nd_one a), ?_⟩
        refine ok_again (F.z e1 a (tupO [.str z.nm z.tn, .int z.x t3] 0)) (AllP.cons (Nat.le_trans hl (by decide)) .nil) (fun s' _ _ _ gb P' hb' => ?_)
        have z:=all_of P'
        rw [sub_one] at z
        exact ⟨rfl,_,(a,t3),kept_of R.starts P' hb',z,rfl,Nat.le_trans hle1 hlo⟩))
    exact ⟨s',p',t',a,hC,hQ.1,hQ.2.1,hQ.2.2.1,hQ.2.2.2⟩
  rcases hsh with rfl | rfl
  · exact key N_cp0 fun c=>cp0 C w t aW ws eW (Int.ofNat v) r (replyS z.x v) z.tR z.nm z.tn x c
  · exact key N_cp1 fun c=>cp1 C w t aW ws eW (Int.ofNat v) r (replyS z.x v) z.tR z.nm z.tn x c
theorem pair_loop {C:CC} {w:World} {x:LX} {O:List Frame} (hO:OutIs O x.out) {aW:Addr} {ws:List Value} {eW:Nat} : ∀ (zs:List PI) (v sh:Nat) (t:CT) (s:Shared) (p:Pos),(sh=1∨(sh=0∧zs≠[]))→t.xs.length+zs.length≤100→PairOk ws v zs→Ready w s (C.ledP w.params sh t aW ws eW (Int.ofNat v) (Int.ofNat zs.length)) →
    ∃ s' t' as,EndsAt (model pw w) s (pairLp C) p O s' (.ok .next)∧Kept s s' (C.ledP w.params sh t aW ws eW (Int.ofNat v) (Int.ofNat zs.length)).as∧AllAt s' (C.ledP w.params 1 t' aW ws eW (Int.ofNat (v+zs.length)) 0) ∧
      t'.xs=t.xs++(as:List (Addr × Nat)).map (fun a=>Value.ref a.1)∧as.length=zs.length∧AllAt s' (pairsL zs as)∧(as.map (·.1)).Nodup ∧ ∀ a∈as,s.heap.objs.size≤a.1
  | [],v,sh,t,s,p,hsh,hl,hT,R=>by
    have:sh=1:=by rcases hsh with h | h; exact h; exact absurd rfl h.2
    subst this
    obtain ⟨s',h1,h2,h3⟩:=seg_ret (ids:=[0,1,2,3,4]) (r:={}) (N:=N_cpE) (fuel:=200) (p:=p) R hO (by decide) no_alts (cpE C w t aW ws eW (Int.ofNat v) x (gxO s _ p)) no_cond
    exact ⟨s',t,[],h1,h2,h3,by rw [List.map_nil,List.append_nil],rfl,(fun _ h=>nomatch h),List.nodup_nil,(fun _ h=>nomatch h)⟩
  | z :: zs,v,sh,t,s,p,hsh,hl,hT,R=>by
    rw [List.length_cons] at hl
    obtain ⟨s1,p1,t1,a,C1,K1,A1,hx,hlo⟩:=pair_turn (p:=p) hO (show sh=0∨sh=1 by rcases hsh with h | h; exact .inr h; exact .inl h.1) R hT.1 (by lia)
    have ha1:s1.heap.get? a.1=some (z.led a).2:=A1 _ (List.mem_append.mpr (.inr (.head _)))
    obtain ⟨s2,t2,as,E2,K2,A2,hx2,hn2,P2,nd2,lo2⟩:=pair_loop hO zs (v+1) 1 t1 s1 p1 (.inl rfl) (by rw [hx,List.length_append,List.length_singleton]; lia) hT.2 (R.next K1 (fun y hy=>A1 y (List.mem_append.mpr (.inl hy))) rfl)
    have hna:a.1∉(C.ledP w.params 1 t1 aW ws eW (Int.ofNat (v+1)) (Int.ofNat zs.length)).as:=fun h=>by
      have h' : a.1∈(C.ledP w.params sh t aW ws eW (Int.ofNat v) (Int.ofNat (z :: zs).length)).as:=h
      exact absurd (R.lt h') (Nat.not_lt.mpr hlo)
    refine ⟨s2,t2,a :: as,EndsAt.after C1 E2,K1.trans K2 (fun b hb => .inl hb), ?_, ?_, ?_, ?_, ?_, ?_⟩
    · have:v+(z :: zs).length=v+1+zs.length:=by rw [List.length_cons]; lia
      rw [this]
      exact A2
    · rw [hx2,hx,List.map_cons,List.append_assoc]; rfl
    · rw [List.length_cons,List.length_cons,hn2]
    · intro y hy
      rcases List.mem_cons.mp hy with rfl | hy
      · exact K2.keep _ _ ha1 hna
      · exact P2 y hy
    · refine List.nodup_cons.mpr ⟨fun h => ?_,nd2⟩
      obtain ⟨b,hb,e⟩:=List.mem_map.mp h
      have:=lo2 b hb
      rw [e] at this
      exact absurd (get?_lt ha1) (Nat.not_lt.mpr this)
    · intro b hb
      rcases List.mem_cons.mp hb with rfl | hb
      · exact hlo
      · exact Nat.le_trans K1.le (lo2 b hb)
inductive pair_ok_r (C:CC) (w:World) (O:List Frame) (aW:Addr) (ws:List Value) (eW:Nat) (zs:List PI) (t:CT) (s:Shared) (p:Pos):Prop
  | mk : ∀ s' t' as,(EndsAt (model pw w) s (cStart pairC C.it C.acc C.Z C.F (pairCells C.F)) p O s' (.ok .next))→(Kept s s' (C.ledP w.params 0 t aW ws eW 0 (Int.ofNat zs.length)).as)→(AllAt s' (C.ledP w.params 1 t' aW ws eW (Int.ofNat zs.length) 0))→(t'.xs=(as:List (Addr × Nat)).map (fun a=>Value.ref a.1))→(as.length=zs.length)→(AllAt s' (pairsL zs as))→((as.map (·.1)).Nodup)→(∀ a∈as,s.heap.objs.size≤a.1)→pair_ok_r C w O aW ws eW zs t s p
theorem pair_ok {C:CC} {w:World} {x:LX} {O:List Frame} (hO:OutIs O x.out) {aW:Addr} {ws:List Value} {eW:Nat} {zs:List PI} {t:CT} {s:Shared} {p:Pos} (h0:zs≠[]) (hl:zs.length≤50) (hx:t.xs=[]) (hT:PairOk ws 0 zs) (R:Ready w s (C.ledP w.params 0 t aW ws eW 0 (Int.ofNat zs.length))):pair_ok_r C w O aW ws eW zs t s p:=by
  have hit:s.heap.get? C.it=some (ritO 0 (Int.ofNat zs.length)):=R.at' (C.it,_) (.head _)
  obtain ⟨p',hC⟩:=comp_redirect (prog:=pw) (w:=w) (s:=s) (e:=pairC.expr) (d:=0) (acc:= .ref C.acc) (env:=compEnv pairC C.Z C.F (pairCells C.F)) hit (rit_self _ _) (by decide +kernel) p O
  obtain ⟨s',t',as,h1,h2,h3,h4,h5⟩:=pair_loop hO zs 0 0 t s p' (.inr ⟨rfl,h0⟩) (by rw [hx]; show 0+zs.length≤100; lia) hT R
  refine ⟨s',t',as,EndsAt.after hC h1,h2, ?_, ?_,h5.1,h5.2.1,h5.2.2.1,h5.2.2.2⟩
  · rw [Nat.zero_add] at h3; exact h3
  · rw [h4,hx]; rfl
end Mine
end
section
open PySem PySem.W PySem.W.X PySem.Calls PyProof.Rows PySem.SeqAt
namespace Mine
theorem nd2 {L:List Nat} {b:Nat} (h:L.Nodup) (hb : ∀ a∈L,a<b):((b+1) :: b :: L).Nodup:=by
  have h0:b∉L:=fun q=>by have:=hb _ q; lia
  have h1:b+1∉L:=fun q=>by have:=hb _ q; lia
  rw [List.nodup_cons,List.nodup_cons]
  simp only [List.mem_cons,not_or]
  exact ⟨⟨by lia,h1⟩,h0,h⟩
theorem OutOk.mono {V:Cfg} {Q Q' : Result ⊕ Code→Shared→Prop} (h : ∀ x s,Q x s→Q' x s) : ∀ o:Out,OutOk V Q o→OutOk V Q' o
  | .ret ..,⟨h1,h2,h3,h4⟩=>⟨h1,h2,h3,fun s P g b=>h _ _ (h4 s P g b)⟩
  | .again ..,⟨h1,h2,h3,h4⟩=>⟨h1,h2,h3,fun s P g b=>h _ _ (h4 s P g b)⟩
  | .cut c stk rep base off tk gb EA EB CS TA TB rest,⟨h1,h2,h3,h4⟩=>⟨h1,h2,h3,fun s p k g l c₀ st P b le e1 e2 e3=>by
      obtain ⟨e,s',a,b',d⟩:=h4 s p k g l c₀ st P b le e1 e2 e3
      exact ⟨e,s',a,b',OutOk.mono h (rest e) d⟩⟩
  | .fail ..,h' => h'
set_option maxHeartbeats 1000000 in
theorem left_shape {P:LP} {w:World} {s:Shared} {eP:Nat} {ac:Addr} {t:LS} {ps:List PQ} {o:OP} {c:GX} {r:Ora} {ids:List Nat} {lb:Nat} {i:EI} (R:Ready w s (P.call w.params eP ac)) (hz:P.z=0∨P.z=9) (hsz:P.sz=P.z) (hsh:t.sh=1∨t.sh=2)
    (ho:t.own.cps.toList=ownL ps) (hn : ∀ z∈ps,∃ c,z.n=⟨#[c]⟩) (hw : ∀ z∈ps,z.w.length≤30) (hp:ps.length≤4) :
    OutOk (Vk w o.out ids (ghO s (P.call w.params eP ac)) r) (fun x s' => match x with | .inl r=>LeftQ P w s eP ac t.own r s' | .inr _=>False) (P.wOut w eP ac t ps.reverse o c i lb):=
  left_tail R hz hsz ho hn hw hp (lw_any hsh ps.reverse (by rw [List.length_reverse]; exact hp))
theorem TPok.in {P:LP} {t:LS} {q:TP} {a b c:Nat} (T:TPok P t q):TPok (P.in a b c) t q:=⟨T.ord,T.nmL,T.tdL,T.nm,T.pl,T.lo,T.hi⟩
inductive left_ok_r (P:LP) (w:World) (s:Shared) (p:Pos) (O:List Frame) (eP:Nat) (ac:Addr) (qs:Nat→TP):Prop
  | mk : ∀ r s' own,(EndsAt (model pw w) s (.call (.ref 225) ⟨[.ref P.aO, .ref P.aN, .ref P.aT, .ref P.aP, .int P.sz P.ts],[]⟩) p O s' r)→(LeftQ P w s eP ac own r s')→((own.length:Int)=max 0 (max 0 (max 0 (max 0 ((qs 0).x)+(qs 1).x)+(qs 2).x)+(qs 3).x))→left_ok_r P w s p O eP ac qs
theorem left_ok {P:LP} {w:World} {s:Shared} {p:Pos} {O:List Frame} {o:OP} {eP:Nat} {ac:Addr} {qs:Nat→TP} {i0 i1 i2 i3:Nat} (R:Ready w s (P.call w.params eP ac)) (hO:OutIs O o.out) (hP:P.q=[i0,i1,i2,i3]) (hz:P.z=0∨P.z=9) (hsz:P.sz=P.z) (T : ∀ t' : LS,t'.j<4→TPok P t' (qs t'.j)):left_ok_r P w s p O eP ac qs:=by
  let t0:LS:=⟨0,0,S [],0,[],0,0,0,0,0,0,0,0,0,fun _=>0⟩
  have F:=lw_0 P w eP ac t0 o (gxO s (P.call w.params eP ac) p) 0
  obtain ⟨r,s',hE,own,hQ,hl⟩:=seg_ok (P:=fun r s' => ∃ own:Str,LeftQ P w s eP ac own r s' ∧ (own.length:Int)=max 0 (max 0 (max 0 (max 0 ((qs 0).x)+(qs 1).x)+(qs 2).x)+(qs 3).x)) (p:=p) (N:=N_lw) (fuel:=1000)
    (ids:=[0,1,2,3,4,5]) (r:={exs:=[[7,6,0,1,2,3,4],[0,1,5],[0,1,5,8],[0,1,5,8,9],[0,1,5,8,9,10],[0,1,5,8,9,10,11],[0,1]],sel:=selLeft}) (L:=P.call w.params eP ac) R hO (by decide) no_alts
    (ok_cutR (L:=(P.in s.heap.objs.size s.toks 0).led w.params (t0.in s.toks eP)) F.1 no_cond (fun s1 p1 O1 RL0 hO1=>by
      have hO2:OutIs O1 (CX.out ⟨leftD.b,leftEnv s.heap.objs.size,(P.runW w eP ac o (gxO s (P.call w.params eP ac) p)).sp2,o,ghO s [],0,0,0,p⟩):=hO1.outIs F.2
      have RL:Ready w s1 ((P.in s.heap.objs.size s.toks s1.heap.objs.size).led w.params (t0.in s.toks eP)):=RL0
      have I:LInv (P.in s.heap.objs.size s.toks s1.heap.objs.size) w s1 (t0.in s.toks eP) []:=⟨RL,fun _ h=>(nomatch h),by rw [List.map_nil,List.append_nil]; exact RL.nd,fun _ h=>(nomatch h),rfl,rfl,fun _ h=>(nomatch h),fun _ h=>(nomatch h),Nat.le_refl _,by show (0:Nat)≤4; decide, .inl ⟨rfl,rfl⟩,fun h=>absurd rfl h,fun _ h=>(nomatch h),Nat.le_refl _⟩
      obtain ⟨s2,t',ps',E,K,LR,hlen⟩:=leftLoop_ok (P:=P.in s.heap.objs.size s.toks s1.heap.objs.size) (p:=p1) (qs:=qs) (i0:=i0) (i1:=i1) (i2:=i2) (i3:=i3) hP I (fun t' h=>(T t' h).in) hO2 rfl
      have hlen' : (t'.own.length:Int)=max 0 (max 0 (max 0 (max 0 ((qs 0).x)+(qs 1).x)+(qs 2).x)+(qs 3).x):=by
        rw [hlen]
        show max 0 (max 0 (max 0 (max 0 (0+(qs 0).x)+(qs 1).x)+(qs 2).x)+(qs 3).x)=_
        rw [Int.zero_add]
      refine ⟨loopEff (P.in s.heap.objs.size s.toks s1.heap.objs.size) w.params s.heap.objs.size t' ps'.reverse ⟨s2.heap.objs.size,s2.toks,s2.gens.size⟩,s2,E, ?_, ?_⟩
      · have hrest:=LR.rest
        have KD:Kept s1 s2 (Led.as [(s.heap.objs.size+1,itEnd),(s.heap.objs.size,(P.in s.heap.objs.size s.toks s1.heap.objs.size).frame w.params t'),(P.aP,accO P.aD (refsOf ps'.reverse) t'.eP)]):=
          Kept.drop (L:=[(s.heap.objs.size+1,itEnd),(s.heap.objs.size,(P.in s.heap.objs.size s.toks s1.heap.objs.size).frame w.params t'),(P.aP,accO P.aD (refsOf ps'.reverse) t'.eP)]) (M:=((P.in s.heap.objs.size s.toks s1.heap.objs.size).led w.params (t0.in s.toks eP)).drop 3) K
            (fun x hx=>RL.at' x (List.drop_subset _ _ hx)) (fun x hx=>hrest x (.tail _ (.tail _ (.tail _ hx))))
        refine eff_of (ix:=[7,6,0]) (F:=[(s.heap.objs.size+1,itEnd),(s.heap.objs.size,(P.in s.heap.objs.size s.toks s1.heap.objs.size).frame w.params t'),(P.aP,accO P.aD (refsOf ps'.reverse) t'.eP)]) KD (fun x hx => ?_) (fun x hx => ?_) (fun x hx => ?_) ?_ (by decide) rfl
        · rcases List.mem_cons.mp hx with rfl | hx
          · exact hrest _ (.head _)
          rcases List.mem_cons.mp hx with rfl | hx
          · exact hrest _ (.tail _ (.head _))
          rcases List.mem_cons.mp hx with rfl | hx
          · have:=hrest _ (.tail _ (.tail _ (.head _)))
            have hx2:=LR.xs
            have e:xsOf ps' = refsOf ps'.reverse:=rfl
            rw [e] at hx2
            have this:s2.heap.get? P.aP=some (accO P.aD t'.xs t'.eP):=this
            rw [hx2] at this
            exact this
          · exact nomatch hx
        · obtain ⟨z,hz',hx'⟩:=List.mem_flatMap.mp hx
          exact LR.parts _ (List.mem_flatMap.mpr ⟨z,List.mem_reverse.mp hz',hx'⟩)
        · obtain ⟨z,hz',hx'⟩:=List.mem_flatMap.mp hx
          rcases List.mem_cons.mp hx' with rfl | hx'
          · exact LR.lo z (List.mem_reverse.mp hz')
          · exact nomatch hx'
        · show (Led.as (ps'.reverse.flatMap PQ.led)).Nodup
          rw [partsL_as,List.map_reverse]
          exact (List.reverse_perm _).symm.nodup (List.nodup_append.mp LR.nd).2.1
      · have Z:=left_shape (c:=gxO s (P.call w.params eP ac) p) (lb:=s1.heap.objs.size) (i:=⟨s2.heap.objs.size,s2.toks,s2.gens.size⟩) (r:={exs:=[[7,6,0,1,2,3,4],[0,1,5],[0,1,5,8],[0,1,5,8,9],[0,1,5,8,9,10],[0,1,5,8,9,10,11],[0,1]],sel:=selLeft}) (ids:=[0,1,2,3,4,5]) (o:=o) (t:=t') (ps:=ps') R hz hsz LR.sh LR.own LR.nm LR.wl LR.np
        exact OutOk.mono (fun x s' h=>by
          cases x with
          | inl r=>exact ⟨t'.own,h,hlen'⟩
          | inr _=>exact h) _ Z))
  exact ⟨r,s',own,hE,hQ,hl⟩
end Mine
end
section
open PySem PySem.W PySem.W.X PySem.Calls PyProof.Rows PySem.SeqAt
namespace Mine
theorem Kept.but {s s' : Shared} {A B:List Addr} {a:Addr} {o:Obj} (K:Kept s s' A) (h:s.heap.get? a=some o) (h' : s'.heap.get? a=some o) (hAB : ∀ b∈A,b∈B∨b=a):Kept s s' B where
  keep b o' e hb:=by
    by_cases q:b=a
    · subst q
      rw [h] at e
      cases e
      exact h'
    · exact K.keep b o' e fun hm=>(hAB b hm).elim hb q
  le:=K.le
  bare:=K.bare
  drawn:=K.drawn
  os:=K.os
noncomputable def leftV (qs:Nat→TP):Int:=max 0 (max 0 (max 0 (max 0 ((qs 0).x)+(qs 1).x)+(qs 2).x)+(qs 3).x)
noncomputable def leftLp (C:CC):Code:=cLoop leftC C.it C.acc C.Z C.F (leftCells C.F)
noncomputable def CC.basL (C:CC) (P:LP) (aOs:Addr):List Addr:=[C.it,C.acc,C.Z,C.F+6,C.F+1,C.F+5,C.F+7,aOs,P.aP,P.aD,P.aN,P.aT,63]
structure LeftTQ (C:CC) (P:LP) (w:World) (t:CT) (aOs:Addr) (os:List Value) (eO:Nat) (ac:Addr) (qs:Nat→TP) (v r:Nat) (s s' : Shared) (t' : CT) (eP' tz' ty:Nat):Prop where
  kept:Kept s s' (C.basL P aOs)
  at' : AllAt s' (C.ledL {P with z:=0,tz:=tz' } w.params 1 t' aOs os eO eP' ac (Int.ofNat (v+1)) (Int.ofNat r))
  xs:t'.xs=t.xs++[.int (leftV qs) ty]
noncomputable def LeftT (C:CC) (P:LP) (w:World) (O:List Frame) (t:CT) (aOs:Addr) (os:List Value) (eO:Nat) (ac:Addr) (qs:Nat→TP) (v r:Nat) (s:Shared) (p:Pos):Prop:=
  ∃ s' p' t' eP' tz' ty,Comes (model pw w) s ⟨(model pw w).den (leftLp C),leftLp C,p,O⟩ s' ⟨(model pw w).den (leftLp C),leftLp C,p',O⟩∧LeftTQ C P w t aOs os eO ac qs v r s s' t' eP' tz' ty
set_option maxHeartbeats 1000000 in
theorem left_turn {C:CC} {P:LP} {w:World} {x:LX} {O:List Frame} (hO:OutIs O x.out) {sh v r:Nat} {t:CT} {aOs:Addr} {os:List Value} {eO eP:Nat} {ac:Addr} {qs:Nat→TP} {i0 i1 i2 i3:Nat} {s:Shared} {p:Pos} (hsh:(sh=0∧v=0∧P.z=9)∨(sh=1∧0<v∧P.z=0))
    (R:Ready w s (C.ledL P w.params sh t aOs os eO eP ac (Int.ofNat v) (Int.ofNat (r+1)))) (hos:AllP (cItem os (Int.ofNat v) (.ref P.aO))) (hP:P.q=[i0,i1,i2,i3]) (T : ∀ t' : LS,t'.j<4→TPok P t' (qs t'.j)) (hl:t.xs.length≤100) :
    LeftT C P w O t aOs os eO ac qs v r s p:=by
  have key : ∀ (N:Nat) (b:Bool) (zz:Int),P.z=zz→(zz=0∨zz=9)→(Int.ofNat v == 0)=b→(∀ c,ClS C P w t aOs os eO eP ac (Int.ofNat v) r zz b x (C.runL P w sh t aOs os eO eP ac (Int.ofNat v) (Int.ofNat (r+1)) x c N))→LeftT C P w O t aOs os eO ac qs v r s p:=fun N b zz hz hz2 hb0 F=>by
    have F:=F (gxO s (C.ledL P w.params sh t aOs os eO eP ac (Int.ofNat v) (Int.ofNat (r+1))) p)
    obtain ⟨s',p',hC,t',eP',tz',ty,hQ⟩:=seg_turn (N:=N) (fuel:=200) (p:=p) (ids:=idsL) (r:={exs:=[[8,9,10,11,12,13]],vs:=[.ref P.aO]}) (L:=C.ledL P w.params sh t aOs os eO eP ac (Int.ofNat v) (Int.ofNat (r+1)))
      (P:=fun s' => ∃ t' eP' tz' ty,LeftTQ C P w t aOs os eO ac qs v r s s' t' eP' tz' ty) (c' :=leftLp C) R hO (by decide) no_alts
      (ok_cutR F.a (AllP.cons hb0 hos) fun s1 p1 O1 R1 hO1=>by
        obtain ⟨res,s2,own,E2,Q2,hown⟩:=left_ok (P:={P with sz:=zz,ts:=_}) (qs:=qs) (p:=p1) R1 (hO1.outIs F.k) hP (by show P.z=0∨P.z=9; rw [hz]; exact hz2) hz.symm (fun t' h=>⟨(T t' h).ord,(T t' h).nmL,(T t' h).tdL,(T t' h).nm,(T t' h).pl,(T t' h).lo,(T t' h).hi⟩)
        obtain ⟨ty,rfl⟩:=Q2.res
        obtain ⟨eP',tz',A2⟩:=Q2.at'
        let e1:CE:=⟨Int.ofNat own.length,S [],ty,s2.heap.objs.size,s2.toks,s2.gens.size⟩
        refine ⟨lEff e1 P w.params eP' tz',s2,E2,eff_upd (ix:=[8,9]) (F:=[(P.aP,accO P.aD [] eP'),(P.aD,sizeO w.params 0 P.kz tz' P.eD)]) (Q2.kept.lessP (D:=(P.call w.params eP ac).drop 2) (R1.at'.of [2,3,4,5] (by kernel_rfl)) (A2.of [2,3,4,5] (by kernel_rfl)) [0,1,2,3,4,5] (by kernel_rfl)) (A2.of [0,1] (by kernel_rfl)) (by decide) rfl, ?_⟩
        refine ok_again (F.z e1 eP' tz') (AllP.cons (Nat.le_trans hl (by decide)) .nil) (fun s' _ _ _ gb P' hb' => ?_)
        have z:=all_of P'
        rw [sub_one] at z
        exact ⟨rfl,_,eP',tz',ty,(kept_of R.starts P' hb').lessP (D:=[(P.aO,ordO P.tq P.q)]) (R.at'.of [10] (by kernel_rfl)) (z.of [10] (by kernel_rfl)) [0,1,2,3,4,5,6,7,8,9,13,10,11,12] (by kernel_rfl),z,congrArg (fun i:Int=>t.xs++[Value.int i ty]) hown⟩)
    exact ⟨s',p',t',eP',tz',ty,hC,hQ⟩
  rcases hsh with ⟨rfl,rfl,hz⟩ | ⟨rfl,hv,hz⟩
  · exact key N_cl0 true 9 hz (.inr rfl) rfl fun c=>cl0 C P w t aOs os eO eP ac (Int.ofNat 0) r x c
  · exact key N_cl1 false 0 hz (.inl rfl) (by simp; lia) fun c=>cl1 C P w t aOs os eO eP ac (Int.ofNat v) r x c
end Mine
end
section
open PySem PySem.W PySem.W.X PySem.Calls PyProof.Rows PySem.SeqAt
namespace Mine
noncomputable def LP.at (P:LP) (ao:Nat→Addr) (qj:Nat→List Nat) (j:Nat):LP:={P with aO:=ao j,q:=qj j}
theorem notBas {C:CC} {P:LP} {aOs:Addr} (nd:([C.it,C.acc,C.Z,C.F+6,C.F+1,C.F+5,C.F+7,aOs,P.aP,P.aD]++P.aO :: [P.aN,P.aT,63]:List Addr).Nodup):P.aO∉C.basL P aOs:=by
  intro hm
  have hm:P.aO∈[C.it,C.acc,C.Z,C.F+6,C.F+1,C.F+5,C.F+7,aOs,P.aP,P.aD]++[P.aN,P.aT,63]:=hm
  have h:=List.nodup_append.mp nd
  rcases List.mem_append.mp hm with q | q
  · exact h.2.2 _ q _ (.head _) rfl
  · exact (List.nodup_cons.mp h.2.1).1 q
set_option maxHeartbeats 1000000 in
theorem left_loop {C:CC} {P:LP} {w:World} {x:LX} {O:List Frame} (hO:OutIs O x.out) {aOs:Addr} {os:List Value} {eO:Nat} {ac:Addr} {ao:Nat→Addr} {qj:Nat→List Nat} {qss:Nat→Nat→TP}
    (hos : ∀ j<24,AllP (cItem os (Int.ofNat j) (.ref (ao j)))) (hq : ∀ j<24,∃ i0 i1 i2 i3,qj j=[i0,i1,i2,i3]) (T : ∀ j<24,∀ (z:Int) (tz:Nat) (t' : LS),t'.j<4→TPok {P.at ao qj j with z:=z,tz:=tz} t' (qss j t'.j)) :
    ∀ (m v sh:Nat) (z:Int) (tz:Nat) (t:CT) (eP:Nat) (s:Shared) (p:Pos),v+m=24→((sh=0∧v=0∧z=9)∨(sh=1∧0<v∧z=0))→t.xs.length=v→(∀ j<24,Ready w s (C.ledL {P.at ao qj j with z:=z,tz:=tz} w.params sh t aOs os eO eP ac (Int.ofNat v) (Int.ofNat m))) →
    ∃ s' t' eP' tz' ys,EndsAt (model pw w) s (leftLp C) p O s' (.ok .next)∧Kept s s' (C.basL P aOs)∧AllAt s' (C.ledL {P.at ao qj 0 with z:=0,tz:=tz' } w.params 1 t' aOs os eO eP' ac (Int.ofNat 24) 0) ∧
      t'.xs=t.xs++(ys:List (Int × Nat)).map (fun y=>Value.int y.1 y.2)∧ys.map (·.1)=(List.range' v m).map fun j=>leftV (qss j)
  | 0,v,sh,z,tz,t,eP,s,p,hv,hsh,hl,R=>by
    rcases hsh with ⟨_,h,_⟩ | ⟨rfl,_,rfl⟩
    · lia
    have e:v=24:=by lia
    subst e
    obtain ⟨s',h1,h2,h3⟩:=seg_ret (ids:=idsL) (r:={exs:=[[8,9,10,11,12,13]],vs:=[.ref (ao 0)]}) (N:=N_clE) (fuel:=200) (p:=p) (R 0 (by decide)) hO (by decide) no_alts (clE C {P.at ao qj 0 with z:=0,tz:=tz} w t aOs os eO eP ac (Int.ofNat 24) x (gxO s _ p)) no_cond
    refine ⟨s',t,eP,tz,[],h1, ?_,h3,by rw [List.map_nil,List.append_nil],rfl⟩
    exact h2.lessP (D:=[(ao 0,ordO P.tq (qj 0))]) ((R 0 (by decide)).at'.of [10] (by kernel_rfl)) (h3.of [10] (by kernel_rfl)) [0,1,2,3,4,5,6,7,8,9,13,10,11,12] (by kernel_rfl)
  | m+1,v,sh,z,tz,t,eP,s,p,hv,hsh,hl,R=>by
    have hv24:v<24:=by lia
    obtain ⟨i0,i1,i2,i3,hqv⟩:=hq v hv24
    obtain ⟨s1,p1,t1,eP1,tz1,ty,C1,⟨K1,A1,hx⟩⟩:=left_turn (P:={P.at ao qj v with z:=z,tz:=tz}) (qs:=qss v) (p:=p) hO hsh (R v hv24) (hos v hv24) hqv (fun t' h=>T v hv24 z tz t' h) (by lia)
    have R1 : ∀ j<24,Ready w s1 (C.ledL {P.at ao qj j with z:=0,tz:=tz1} w.params 1 t1 aOs os eO eP1 ac (Int.ofNat (v+1)) (Int.ofNat m)):=fun j hj=>by
      have Rj:=R j hj
      have hn:ao j∉C.basL P aOs:=notBas (P:=P.at ao qj j) Rj.nd
      have ho:s1.heap.get? (ao j)=some (ordO P.tq (qj j)):=K1.keep _ _ (Rj.at'.of (D:=[(ao j,ordO P.tq (qj j))]) [10] (by kernel_rfl) _ (.head _)) hn
      exact Rj.next (K1.monoP [0,1,2,3,4,5,6,7,8,9,11,12,13] (by kernel_rfl)) ((A1.snoc ho).of [0,1,2,3,4,5,6,7,8,9,14,11,12,13] (by kernel_rfl)) rfl
    obtain ⟨s2,t2,eP2,tz2,ys,E2,K2,A2,hx2,hy2⟩:=left_loop hO hos hq T m (v+1) 1 0 tz1 t1 eP1 s1 p1 (by lia) (.inr ⟨rfl,by lia,rfl⟩) (by rw [hx,List.length_append,hl]; rfl) R1
    refine ⟨s2,t2,eP2,tz2,(leftV (qss v),ty) :: ys,EndsAt.after C1 E2,K1.trans K2 (fun b hb => .inl hb),A2, ?_, ?_⟩
    · rw [hx2,hx,List.map_cons,List.append_assoc]; rfl
    · rw [List.map_cons,hy2,List.range'_succ,List.map_cons]
end Mine
namespace Mine
inductive leftC_ok_r (C:CC) (P:LP) (w:World) (O:List Frame) (aOs:Addr) (os:List Value) (eO:Nat) (ac:Addr) (ao:Nat→Addr) (qj:Nat→List Nat) (qss:Nat→Nat→TP) (tz:Nat) (s:Shared) (p:Pos):Prop
  | mk : ∀ s' t' eP' tz' ys,(EndsAt (model pw w) s (cStart leftC C.it C.acc C.Z C.F (leftCells C.F)) p O s' (.ok .next))→(Kept s s' (C.basL P aOs))→(AllAt s' (C.ledL {P.at ao qj 0 with z:=0,tz:=tz' } w.params 1 t' aOs os eO eP' ac 24 0))→(t'.xs=(ys:List (Int × Nat)).map (fun y=>Value.int y.1 y.2))→(ys.map (·.1)=(List.range' 0 24).map fun j=>leftV (qss j))→leftC_ok_r C P w O aOs os eO ac ao qj qss tz s p
theorem leftC_ok {C:CC} {P:LP} {w:World} {x:LX} {O:List Frame} (hO:OutIs O x.out) {aOs:Addr} {os:List Value} {eO:Nat} {ac:Addr} {ao:Nat→Addr} {qj:Nat→List Nat} {qss:Nat→Nat→TP}
    (hos : ∀ j<24,AllP (cItem os (Int.ofNat j) (.ref (ao j)))) (hq : ∀ j<24,∃ i0 i1 i2 i3,qj j=[i0,i1,i2,i3]) (T : ∀ j<24,∀ (z:Int) (tz:Nat) (t' : LS),t'.j<4→TPok {P.at ao qj j with z:=z,tz:=tz} t' (qss j t'.j))
    {tz:Nat} {t:CT} {eP:Nat} {s:Shared} {p:Pos} (hx:t.xs=[]) (R : ∀ j<24,Ready w s (C.ledL {P.at ao qj j with z:=9,tz:=tz} w.params 0 t aOs os eO eP ac 0 24)):leftC_ok_r C P w O aOs os eO ac ao qj qss tz s p:=by
  have hit:s.heap.get? C.it=some (ritO 0 24):=(R 0 (by decide)).at' (C.it,_) (.head _)
  obtain ⟨p',hC⟩:=comp_redirect (prog:=pw) (w:=w) (s:=s) (e:=leftC.expr) (d:=0) (acc:= .ref C.acc) (env:=compEnv leftC C.Z C.F (leftCells C.F)) hit (rit_self _ _) (by decide +kernel) p O
  obtain ⟨s',t',eP',tz',ys,h1,h2,h3,h4,h5⟩:=left_loop hO hos hq T 24 0 0 9 tz t eP s p' rfl (.inl ⟨rfl,rfl,rfl⟩) (by rw [hx]; rfl) R
  exact ⟨s',t',eP',tz',ys,EndsAt.after hC h1,h2,h3,by rw [h4,hx]; rfl,h5⟩
end Mine
end
section
open PySem PySem.W PySem.W.X PySem.Calls PyProof.Rows PySem.SeqAt
namespace Mine
noncomputable def ringLp (C:CC):Code:=cLoop ringC C.it C.acc C.Z C.F (ringCells C.F)
noncomputable def CC.basR (C:CC) (P:RP) (aOs:Addr):List Addr:=[C.it,C.acc,C.Z,C.F+8,C.F+1,C.F+5,aOs,P.aN,P.aT,P.aW,P.aD]
structure RingTQ (C:CC) (P:RP) (w:World) (t:CT) (z:List Nat × List (List Nat)) (aOs:Addr) (os:List Value) (eO v:Nat) (s s' : Shared) (t' : CT) (eW' ty:Nat):Prop where
  kept:Kept s s' (C.basR P aOs)
  at' : AllAt s' (C.ledR P w.params 1 t' z.1 aOs os eO eW' (Int.ofNat (v+1)))
  xs:t'.xs=t.xs++[.int (ringVal z.2 P.x) ty]
noncomputable def RingT (C:CC) (P:RP) (w:World) (O:List Frame) (t:CT) (z:List Nat × List (List Nat)) (aOs:Addr) (os:List Value) (eO v:Nat) (s:Shared) (p:Pos):Prop:=
  ∃ s' p' t' eW' ty,Comes (model pw w) s ⟨(model pw w).den (ringLp C),ringLp C,p,O⟩ s' ⟨(model pw w).den (ringLp C),ringLp C,p',O⟩∧RingTQ C P w t z aOs os eO v s s' t' eW' ty
set_option maxHeartbeats 1000000 in
theorem ring_turn {C:CC} {P:RP} {w:World} {x:LX} {O:List Frame} (hO:OutIs O x.out) {sh v:Nat} (hsh:sh=0∨sh=1) {t:CT} {z:List Nat × List (List Nat)} {aOs:Addr} {os:List Value} {eO eW:Nat} {s:Shared} {p:Pos} (hz:z∈ringTab)
    (R:Ready w s (C.ledR P w.params sh t z.1 aOs os eO eW (Int.ofNat v))) (hos:AllP (cNext os (Int.ofNat v) (.ref P.aO))) (hl:t.xs.length≤100) :
    RingT C P w O t z aOs os eO v s p:=by
  have key : ∀ (N:Nat),(∀ c,CrS C P w t z.1 aOs os eO eW (Int.ofNat v) x (C.runR P w sh t z.1 aOs os eO eW (Int.ofNat v) x c N))→RingT C P w O t z aOs os eO v s p:=fun N F=>by
    have F:=F (gxO s (C.ledR P w.params sh t z.1 aOs os eO eW (Int.ofNat v)) p)
    obtain ⟨s',p',hC,t',eW',ty,hQ⟩:=seg_turn (N:=N) (fuel:=200) (p:=p) (ids:=idsR) (r:={exs:=[[7,8,9,10,11]],vs:=[.ref P.aO],ln:=7}) (L:=C.ledR P w.params sh t z.1 aOs os eO eW (Int.ofNat v))
      (P:=fun s' => ∃ t' eW' ty,RingTQ C P w t z aOs os eO v s s' t' eW' ty) (c' :=ringLp C) R hO (by decide) no_alts
      (ok_cutR F.a hos fun s1 p1 O1 R1 hO1=>by
        obtain ⟨res,s2,eW',E2,⟨ty,rfl⟩,K2,A2⟩:=rings_ok w z hz (p:=p1) R1 (hO1.outIs F.k)
        let e1:CE:=⟨ringVal z.2 P.x,S [],ty,s2.heap.objs.size,s2.toks,s2.gens.size⟩
        refine ⟨rEff e1 P eW',s2,E2,eff_upd (ix:=[10]) (F:=[(P.aW,accO P.aD [] eW')]) (K2.lessP (D:=[(P.aO,ordO P.tq z.1),(P.aN,namesO P.t0 P.t1 P.t2 P.t3 P.eN),(P.aT,intsO [(P.x 0,P.u 0),(P.x 1,P.u 1),(P.x 2,P.u 2),(P.x 3,P.u 3)] P.eT),(P.aD,sizeO w.params 0 P.k0 P.k1 P.eD)]) (R1.at'.of [0,1,2,4] (by kernel_rfl)) (A2.of [0,1,2,4] (by kernel_rfl)) [1,2,3,0,4] (by kernel_rfl)) (A2.of [3] (by kernel_rfl)) (by decide) rfl, ?_⟩
        refine ok_again (F.z e1 eW') (AllP.cons (Nat.le_trans hl (by decide)) .nil) (fun s' _ _ _ gb P' hb' => ?_)
        have zz:=all_of P'
        exact ⟨rfl,_,eW',ty,(kept_of R.starts P' hb').lessP (D:=[(P.aO,ordO P.tq z.1)]) (R.at'.of [7] (by kernel_rfl)) (zz.of [7] (by kernel_rfl)) [0,1,2,3,4,5,6,11,7,8,9,10] (by kernel_rfl),zz,rfl⟩)
    exact ⟨s',p',t',eW',ty,hC,hQ⟩
  rcases hsh with rfl | rfl
  · exact key N_cr0 fun c=>cr0 C P w t z.1 aOs os eO eW (Int.ofNat v) x c
  · exact key N_cr1 fun c=>cr1 C P w t z.1 aOs os eO eW (Int.ofNat v) x c
end Mine
end
section
open PySem PySem.W PySem.W.X PySem.Calls PyProof.Rows PySem.SeqAt
namespace Mine
theorem orefs_get (a:Nat→Addr) : ∀ j,j<24→(orefs a)[j]? = some (.ref (a j))
  | 0,_=>rfl
  | 1,_=>rfl
  | 2,_=>rfl
  | 3,_=>rfl
  | 4,_=>rfl
  | 5,_=>rfl
  | 6,_=>rfl
  | 7,_=>rfl
  | 8,_=>rfl
  | 9,_=>rfl
  | 10,_=>rfl
  | 11,_=>rfl
  | 12,_=>rfl
  | 13,_=>rfl
  | 14,_=>rfl
  | 15,_=>rfl
  | 16,_=>rfl
  | 17,_=>rfl
  | 18,_=>rfl
  | 19,_=>rfl
  | 20,_=>rfl
  | 21,_=>rfl
  | 22,_=>rfl
  | 23,_=>rfl
  | n+24,h=>absurd h (by lia)
theorem orefs_next (a:Nat→Addr) (j:Nat) (hj:j<24):AllP (cNext (orefs a) (Int.ofNat j) (.ref (a j))):=AllP.cons (Int.natCast_nonneg j) (AllP.cons (orefs_get a j hj) .nil)
theorem orefs_item (a:Nat→Addr) {j:Nat} (hj:j<24):AllP (cItem (orefs a) (Int.ofNat j) (.ref (a j))):=by
  have h:=orefs_next a j hj
  exact AllP.cons (Int.natCast_nonneg j) (AllP.cons (by show (j:Int)<1000; lia) (AllP.cons (h _ (.tail _ (.head _))) .nil))
noncomputable def RP.at (P:RP) (ao:Nat→Addr) (j:Nat):RP:={P with aO:=ao j}
theorem notBasR {C:CC} {P:RP} {aOs:Addr} (nd:([C.it,C.acc,C.Z,C.F+8,C.F+1,C.F+5,aOs]++P.aO :: [P.aN,P.aT,P.aW,P.aD]:List Addr).Nodup):P.aO∉C.basR P aOs:=by
  intro hm
  have hm:P.aO∈[C.it,C.acc,C.Z,C.F+8,C.F+1,C.F+5,aOs]++[P.aN,P.aT,P.aW,P.aD]:=hm
  have h:=List.nodup_append.mp nd
  rcases List.mem_append.mp hm with q | q
  · exact h.2.2 _ q _ (.head _) rfl
  · exact (List.nodup_cons.mp h.2.1).1 q
set_option maxHeartbeats 1000000 in
theorem ring_loop {C:CC} {P:RP} {w:World} {x:LX} {O:List Frame} (hO:OutIs O x.out) {aOs:Addr} {eO:Nat} {ao:Nat→Addr} {zs:Nat→List Nat × List (List Nat)} (hz : ∀ j<24,zs j∈ringTab) :
    ∀ (m v sh:Nat) (t:CT) (eW:Nat) (s:Shared) (p:Pos),v+m=24→((sh=0∧v=0)∨sh=1)→t.xs.length=v→(∀ j<24,Ready w s (C.ledR (P.at ao j) w.params sh t (zs j).1 aOs (orefs ao) eO eW (Int.ofNat v))) →
    ∃ s' t' eW' o ys,EndsAt (model pw w) s (ringLp C) p O s' (.ok .next)∧Kept s s' (C.basR P aOs)∧AllAt s' ((C.it,o) :: (C.ledR (P.at ao 0) w.params 1 t' (zs 0).1 aOs (orefs ao) eO eW' 24).tail) ∧
      t'.xs=t.xs++(ys:List (Int × Nat)).map (fun y=>Value.int y.1 y.2)∧ys.map (·.1)=(List.range' v m).map fun j=>ringVal (zs j).2 P.x
  | 0,v,sh,t,eW,s,p,hv,hsh,hl,R=>by
    have e:v=24:=by lia
    subst e
    have:sh=1:=by rcases hsh with h | h; exact absurd h.2 (by decide); exact h
    subst this
    obtain ⟨s',h1,h2,h3⟩:=seg_ret (ids:=idsR) (r:={exs:=[[7,8,9,10,11]],vs:=[.ref (ao 0)],ln:=7}) (N:=N_crE) (fuel:=200) (p:=p) (R 0 (by decide)) hO (by decide) no_alts (crE C (P.at ao 0) w t (zs 0).1 aOs ao eO eW x (gxO s _ p)) no_cond
    refine ⟨s',t,eW,_,[],h1, ?_,h3,by rw [List.map_nil,List.append_nil],rfl⟩
    exact h2.lessP (D:=[(ao 0,ordO P.tq (zs 0).1)]) ((R 0 (by decide)).at'.of [7] (by kernel_rfl)) (h3.of [7] (by kernel_rfl)) [0,1,2,3,4,5,6,11,7,8,9,10] (by kernel_rfl)
  | m+1,v,sh,t,eW,s,p,hv,hsh,hl,R=>by
    have hv24:v<24:=by lia
    obtain ⟨s1,p1,t1,eW1,ty,C1,⟨K1,A1,hx⟩⟩:=ring_turn (P:=P.at ao v) (z:=zs v) (p:=p) hO (show sh=0∨sh=1 by rcases hsh with h | h; exact .inl h.1; exact .inr h) (hz v hv24) (R v hv24) (orefs_next ao v hv24) (by lia)
    have R1 : ∀ j<24,Ready w s1 (C.ledR (P.at ao j) w.params 1 t1 (zs j).1 aOs (orefs ao) eO eW1 (Int.ofNat (v+1))):=fun j hj=>by
      have Rj:=R j hj
      have hn:ao j∉C.basR P aOs:=notBasR (P:=P.at ao j) Rj.nd
      have ho:s1.heap.get? (ao j)=some (ordO P.tq (zs j).1):=K1.keep _ _ (Rj.at'.of (D:=[(ao j,ordO P.tq (zs j).1)]) [7] (by kernel_rfl) _ (.head _)) hn
      exact Rj.next (K1.monoP [0,1,2,3,4,5,6,8,9,10,11] (by kernel_rfl)) ((A1.snoc ho).of [0,1,2,3,4,5,6,12,8,9,10,11] (by kernel_rfl)) rfl
    obtain ⟨s2,t2,eW2,o,ys,E2,K2,A2,hx2,hy2⟩:=ring_loop hO hz m (v+1) 1 t1 eW1 s1 p1 (by lia) (.inr rfl) (by rw [hx,List.length_append,hl]; rfl) R1
    refine ⟨s2,t2,eW2,o,(ringVal (zs v).2 P.x,ty) :: ys,EndsAt.after C1 E2,K1.trans K2 (fun b hb => .inl hb),A2, ?_, ?_⟩
    · rw [hx2,hx,List.map_cons,List.append_assoc]; rfl
    · rw [List.map_cons,hy2,List.range'_succ,List.map_cons]
inductive ringC_ok_r (C:CC) (P:RP) (w:World) (x:LX) (O:List Frame) (aOs:Addr) (eO:Nat) (ao:Nat→Addr) (zs:Nat→List Nat × List (List Nat)) (s:Shared) (p:Pos):Prop
  | mk : ∀ s' t' eW' o ys,(EndsAt (model pw w) s (cStart ringC C.it C.acc C.Z C.F (ringCells C.F)) p O s' (.ok .next))→(Kept s s' (C.basR P aOs))→(AllAt s' ((C.it,o) :: (C.ledR (P.at ao 0) w.params 1 t' (zs 0).1 aOs (orefs ao) eO eW' 24).tail))→(t'.xs=(ys:List (Int × Nat)).map (fun y=>Value.int y.1 y.2))→(ys.map (·.1)=(List.range' 0 24).map fun j=>ringVal (zs j).2 P.x)→ringC_ok_r C P w x O aOs eO ao zs s p
theorem ringC_ok {C:CC} {P:RP} {w:World} {x:LX} {O:List Frame} (hO:OutIs O x.out) {aOs:Addr} {eO:Nat} {ao:Nat→Addr} {zs:Nat→List Nat × List (List Nat)} (hz : ∀ j<24,zs j∈ringTab) {t:CT} {eW:Nat} {s:Shared} {p:Pos} (hx:t.xs=[])
    (R : ∀ j<24,Ready w s (C.ledR (P.at ao j) w.params 0 t (zs j).1 aOs (orefs ao) eO eW 0)):ringC_ok_r C P w x O aOs eO ao zs s p:=by
  have hit:s.heap.get? C.it=some (litO aOs 0):=(R 0 (by decide)).at' (C.it,_) (.head _)
  have hself:selfIter (litO aOs 0)=true:=by
    show ["list_iterator", "range_iterator", "tuple_iterator", "str_ascii_iterator"].contains "list_iterator" = true
    decide
  obtain ⟨p',hC⟩:=comp_redirect (prog:=pw) (w:=w) (s:=s) (e:=ringC.expr) (d:=0) (acc:= .ref C.acc) (env:=compEnv ringC C.Z C.F (ringCells C.F)) hit hself (by decide +kernel) p O
  obtain ⟨s',t',eW',o,ys,h1,h2,h3,h4,h5⟩:=ring_loop hO hz 24 0 0 t eW s p' rfl (.inl ⟨rfl,rfl⟩) (by rw [hx]; rfl) R
  exact ⟨s',t',eW',o,ys,EndsAt.after hC h1,h2,h3,by rw [h4,hx]; rfl,h5⟩
end Mine
end
section
open PySem PySem.W PySem.W.X PySem.Calls PyProof.Rows PySem.SeqAt
namespace Mine
theorem call_count {w:World} {s:Shared} {p:Pos} {O:List Frame} {stk:Stk} (hO:AtCall p O stk) {x y:Str} {t u:Nat} :
    ∃ q s',EndsAt (model pw w) s (.call (.builtin "str.count") ⟨[.str x t, .str y u],[]⟩) p O s' (.ok (.ret (.int (Int.ofNat (Builtin.Str.occurrences x y 0 x.length (x.length+1)).length) q)))∧Kept s s' []:=by
  obtain ⟨v,s',hE,rfl,rfl⟩:=lib_call (w:=w) (f:= .builtin "str.count") (args:=[.str x t, .str y u]) hO (s:=s) (Q:=fun v s' => v = .int (Int.ofNat (Builtin.Str.occurrences x y 0 x.length (x.length+1)).length) s.toks∧s' = {s with toks:=s.toks+1}) (fun A hh _ =>
    call_meets F.slot_str_count (typeIs_str s x t) F.entry_str_count (F.args_str_count_2 _ _) (gives_str_count x y t u).meets (show (Made.int _).post _ s from ⟨rfl,rfl⟩))
  exact ⟨_,_,hE,⟨fun b o e _=>e,Nat.le_refl _,fun h=>h,rfl,rfl⟩⟩
theorem call_ne {w:World} {s:Shared} {p:Pos} {O:List Frame} {stk:Stk} (hO:AtCall p O stk) {l b:Addr} {xs ys:List Value} {n m:Nat} (hl:s.heap.get? l=some (listO xs n)) (hb:s.heap.get? b=some (listO ys m)) (hsz:xs.length=ys.length) (e:Nat→Bool)
    (he : ∀ (A:Around) (j:Nat) (h1:j<xs.length) (h2:j<ys.length),EqAt A s xs[j] ys[j] (e j)) :
    ∃ s',EndsAt (model pw w) s (.call (.builtin "list.__ne__") ⟨[.ref l, .ref b],[]⟩) p O s' (.ok (.ret (.bool (!(List.range xs.length).all e))))∧Kept s s' []:=by
  obtain ⟨v,s',hE,rfl,rfl⟩:=lib_call (w:=w) (f:= .builtin "list.__ne__") (args:=[.ref l, .ref b]) hO (s:=s) (Q:=fun v s' => v = .bool (!(List.range xs.length).all e)∧s' = s) (fun A hh _ =>
    call_meets F.slot_list_ne ⟨_,hl,rfl⟩ F.entry_list_ne (F.args_list_ne_2 _ _) (list_neAt l b xs.toArray ys.toArray n m none none #[] #[] (by simpa using hsz) e) ⟨hl,hb,fun j h1 h2=>by
      have h1' : j<xs.length:=by simpa using h1
      have h2' : j<ys.length:=by simpa using h2
      have:=fun A=>he A j h1' h2'
      simp only [List.getElem_toArray]
      exact this _,by simp only [List.size_toArray]; exact ⟨rfl,rfl⟩⟩)
  exact ⟨_,hE, .refl _ _⟩
theorem call_eq {w:World} {s:Shared} {p:Pos} {O:List Frame} {stk:Stk} (hO:AtCall p O stk) {l b:Addr} {xs ys:List Value} {n m:Nat} (hl:s.heap.get? l=some (listO xs n)) (hb:s.heap.get? b=some (listO ys m)) (hsz:xs.length=ys.length) (e:Nat→Bool)
    (he : ∀ (A:Around) (j:Nat) (h1:j<xs.length) (h2:j<ys.length),EqAt A s xs[j] ys[j] (e j)) :
    ∃ s',EndsAt (model pw w) s (.call (.builtin "list.__eq__") ⟨[.ref l, .ref b],[]⟩) p O s' (.ok (.ret (.bool ((List.range xs.length).all e))))∧Kept s s' []:=by
  obtain ⟨v,s',hE,rfl,rfl⟩:=lib_call (w:=w) (f:= .builtin "list.__eq__") (args:=[.ref l, .ref b]) hO (s:=s) (Q:=fun v s' => v = .bool ((List.range xs.length).all e)∧s' = s) (fun A hh _ =>
    call_meets F.slot_list_eq ⟨_,hl,rfl⟩ F.entry_list_eq (F.args_list_eq_2 _ _) (list_eqAt l b xs.toArray ys.toArray n m none none #[] #[] (by simpa using hsz) e) ⟨hl,hb,fun j h1 h2=>by
      have h1' : j<xs.length:=by simpa using h1
      have h2' : j<ys.length:=by simpa using h2
      have:=fun A=>he A j h1' h2'
      simp only [List.getElem_toArray]
      exact this _,by simp only [List.size_toArray]; exact ⟨rfl,rfl⟩⟩)
  exact ⟨_,hE, .refl _ _⟩
end Mine
end
section
open PySem PySem.W PySem.W.X PySem.Calls PyProof.Rows PySem.SeqAt
namespace Mine
inductive call_sorted_r (w:World) (s:Shared) (p:Pos) (O:List Frame) (l:Addr) (ns:List Int):Prop
  | mk : ∀ s' a vs' ns' m,(EndsAt (model pw w) s (.call (.builtin "sorted") ⟨[.ref l],[]⟩) p O s' (.ok (.ret (.ref a))))→(Kept s s' [])→(AllAt s' [(a,listO vs' m)])→(s.heap.objs.size≤a)→(IntsAre vs' ns')→(ns'.Perm ns)→(ns'.Pairwise (· ≤ ·))→call_sorted_r w s p O l ns
theorem call_sorted {w:World} {s:Shared} {p:Pos} {O:List Frame} {stk:Stk} (hO:AtCall p O stk) {l:Addr} {vs:List Value} {ns:List Int} {n:Nat} (hl:s.heap.get? l=some (listO vs n)) (hi:IntsAre vs ns) (h64:vs.length<64):call_sorted_r w s p O l ns:=by
  obtain ⟨v,s',hE,h',out,ns',e,rfl,rfl,hk,he,h1,h2,h3⟩:=lib_call (w:=w) (f:= .builtin "sorted") (args:=[.ref l]) hO (s:=s) (Q:=fun v s' => ∃ (h' : Heap) (out:Array Value) (ns' : List Int) (e:Nat),v = .ref (s.heap.objs.size+1)∧s' = {s with heap:=h' }∧(∀ b o,s.heap.get? b=some o→h'.get? b=some o)∧h'.get? (s.heap.objs.size+1)=some (seqObj "list" out e)∧IntsAre out.toList ns' ∧ ns'.Perm ns∧ns'.Pairwise (· ≤ ·)) (fun A hh _ =>
    sorted_ints ⟨_,hl,rfl,n,rfl⟩ hi h64 fun out ns' a1 a2 a3=>by
      obtain ⟨e,he⟩:=sortedAll_at s.heap vs out
      exact ⟨_,out,ns',e,rfl,rfl,fun b o hb=>sortedAll_old hb,he,a1,a2,a3⟩)
  refine ⟨_,_,out.toList,ns',e,hE,⟨fun b o hb _=>hk b o hb,ends_size hE,fun h=>h,rfl,rfl⟩,fun y hy => ?_,Nat.le_succ _,h1,h2,h3⟩
  rcases List.mem_cons.mp hy with rfl | hy
  · exact he
  · exact nomatch hy
end Mine
end
section
open PySem PySem.W PySem.W.X PySem.Calls PyProof.Rows PySem.SeqAt
namespace Mine
theorem call_neU {w:World} {s:Shared} {p:Pos} {O:List Frame} {stk:Stk} (hO:AtCall p O stk) {l b:Addr} {xs ys:List Value} {n m:Nat} (hl:s.heap.get? l=some (listO xs n)) (hb:s.heap.get? b=some (listO ys m)) (hsz:xs.length=ys.length) (e:Nat→Bool)
    (he : ∀ (A:Around) (j:Nat) (h1:j<xs.length) (h2:j<ys.length),A.units≤unitsOf stk+5→EqAt A s xs[j] ys[j] (e j)) :
    ∃ s',EndsAt (model pw w) s (.call (.builtin "list.__ne__") ⟨[.ref l, .ref b],[]⟩) p O s' (.ok (.ret (.bool (!(List.range xs.length).all e))))∧Kept s s' []:=by
  obtain ⟨v,s',hE,rfl,rfl⟩:=lib_call (w:=w) (f:= .builtin "list.__ne__") (args:=[.ref l, .ref b]) hO (s:=s) (Q:=fun v s' => v = .bool (!(List.range xs.length).all e)∧s' = s) (fun A hh hu =>
    call_meets F.slot_list_ne ⟨_,hl,rfl⟩ F.entry_list_ne (F.args_list_ne_2 _ _) (list_neAt l b xs.toArray ys.toArray n m none none #[] #[] (by simpa using hsz) e) ⟨hl,hb,fun j h1 h2=>by
      have h1' : j<xs.length:=by simpa using h1
      have h2' : j<ys.length:=by simpa using h2
      have:=fun A=>he A j h1' h2'
      simp only [List.getElem_toArray]
      exact this _ (by rw [units_in1]; lia),by simp only [List.size_toArray]; exact ⟨rfl,rfl⟩⟩)
  exact ⟨_,hE, .refl _ _⟩
end Mine
end
section
open PySem PySem.W PySem.W.X PySem.Calls PyProof.Rows PySem.SeqAt
namespace Mine
theorem pc_law (w:World) (a:AP) (b:List Stmt) (e:PySem.Env) (p2 p3:Pos) (g:Gh) (base tk gb:Nat) (p:Pos) :
    isRet (pcRun w a (outLaw b e p2 p3) g base tk gb p) (.ok (.ret (.int (Int.ofNat a.xs.length) (tk+2)))) ((a.led w.params).map some) []:=by
  kernel_rfl
structure LXo where
  b:List Stmt
  e:PySem.Env
  p2:Pos
  p3:Pos
noncomputable def LXo.out (x:LXo):Stk:=outLaw x.b x.e x.p2 x.p3
theorem pc_popL (w:World) (a:AP) (L:Addr) (c:LXo) (g:Gh) (base tk gb:Nat) (p p0:Pos) :
    isRet (pcRun w a ((.func popD.b (popEnv L),p0) :: c.out) g base tk gb p) (.ok (.ret (.int (Int.ofNat a.xs.length) (tk+2)))) ((a.led w.params).map some) []:=by
  kernel_rfl
noncomputable def popLRun (w:World) (a:AP) (ys:List Value) (pa:Addr) (c:LXo) (g:Gh) (base tk gb:Nat) (p:Pos):Out:=
  (sg w c.out [0,1] {exs:=[[0,1]],px:=ys,pv:= .ref pa,alts:=[popAlt w base c.out]} (a.led w.params) g base tk gb (.call (.ref 61) ⟨[.ref a.aP],[]⟩) p).run 150 N_pop1
theorem popL_run (w:World) (a:AP) (ys:List Value) (pa:Addr) (c:LXo) (g:Gh) (base tk gb:Nat) (p:Pos) (m:X) :
    isCut (popLRun w a ys pa c g base tk gb p) (.call (.ref 98) ⟨[.ref a.aP],[]⟩) ((a.led w.params).map some) [] ∧
    (popLRun w a ys pa c g base tk gb p).row.stk=(.func popD.b (popEnv base),atPop) :: c.out ∧
    isRet ((popLRun w a ys pa c g base tk gb p).rest m.eff) (.ok (.ret (.ref pa))) ((AP.led {a with xs:=ys,eP:=a.eP+1} w.params).map some) [a.xs=ys++[.ref pa],a.xs.length≤1000,(m.v == 0)=false]:=by
  refine ⟨?_, ?_, ?_⟩ <;> kernel_rfl
theorem popL_ok {w:World} {a:AP} {ys:List Value} {pa:Addr} {s:Shared} {p:Pos} {O:List Frame} {c:LXo} (R:Ready w s (a.led w.params)) (hO:OutIs O c.out) (hx:a.xs=ys++[.ref pa]) (hl:a.xs.length≤1000) :
    ∃ s',EndsAt (model pw w) s (.call (.ref 61) ⟨[.ref a.aP],[]⟩) p O s' (.ok (.ret (.ref pa)))∧Kept s s' (a.led w.params).as∧AllAt s' (AP.led {a with xs:=ys,eP:=a.eP+1} w.params):=by
  obtain ⟨r,s',hE,rfl,hK,hA⟩:=seg_ok (P:=fun r s' => r = .ok (.ret (.ref pa))∧Kept s s' (a.led w.params).as∧AllAt s' (AP.led {a with xs:=ys,eP:=a.eP+1} w.params)) (p:=p) (N:=N_pop1) (fuel:=150)
    (ids:=[0,1]) (r:={exs:=[[0,1]],px:=ys,pv:= .ref pa,alts:=[popAlt w s.heap.objs.size c.out]}) R hO (by decide) (one_alt (popAlt_ok w _ _))
    (ok_pcut (R:=fun r => ∃ t,r = .ok (.ret (.int (Int.ofNat a.xs.length) t))) (popL_run w a ys pa c _ _ _ _ p x0).1 no_cond
      (fun s1 p1 O1 base off tk P hb hO1=>pc_of (Ready.cut P hb R.nd R.ap) (hO1.outIs (popL_run w a ys pa c _ _ _ _ p x0).2.1) (pc_popL w a _ c _ _ _ _ p1 atPop))
      (fun r b k g ht=>by
        obtain ⟨t,rfl⟩:=ht
        refine ok_ret (popL_run w a ys pa c _ _ _ _ p ⟨Int.ofNat a.xs.length,t,b,k,g⟩).2.2 (allP3 hx hl ?_) (fun s' _ _ _ gb P' hb=>⟨rfl,kept_of R.starts P' hb,all_of P'⟩)
        rw [hx,List.length_append]
        exact beq_eq_false_iff_ne.mpr (by show Int.ofNat _≠Int.ofNat 0; intro q; have:=Int.ofNat.inj q; simp at this)))
  exact ⟨s',hE,hK,hA⟩
end Mine
end
section
open PySem PySem.W PySem.W.X PySem.Calls PyProof.Rows PySem.SeqAt
namespace Mine
noncomputable def sufT (q:Nat→Bool) (W:Nat→List Nat):Nat→Nat→List Nat
  | _,0=>[]
  | k,m+1=>whT (shutAt q k) k++(wdT (q k) (W k)++sufT q W (k+1) m)
theorem lay_suf (q:Nat→Bool) (W:Nat→List Nat) : ∀ (m k:Nat),layT q W k++sufT q W k m=layT q W (k+m)
  | 0,k=>by rw [show sufT q W k 0=[] from rfl,List.append_nil]; rfl
  | m+1,k=>by
    have:=lay_suf q W m (k+1)
    rw [show k+(m+1)=k+1+m by lia,← this]
    show layT q W k++(whT (shutAt q k) k++(wdT (q k) (W k)++sufT q W (k+1) m))=(layT q W k++(whT (shutAt q k) k++wdT (q k) (W k)))++sufT q W (k+1) m
    simp only [List.append_assoc]
structure WdOk (W:List Nat):Prop where
  ne:W≠[]
  ch : ∀ c∈W,0<c∧c<128∧c≠13
  len:W.length≤900
theorem whD_ws (k:Nat):isWs (whD k):=by
  unfold whD isWs
  have : ∀ n<4,[32,9,10,13].getD n 0=32∨[32,9,10,13].getD n 0=9∨[32,9,10,13].getD n 0=10∨[32,9,10,13].getD n 0=13:=by decide
  exact this _ (Nat.mod_lt _ (by decide))
theorem drop_app2 {α : Type} {l a b:List α} {n:Nat} (h:l.drop n=a++b):l.drop (n+a.length)=b:=by
  rw [← List.drop_drop,h,List.drop_left]
theorem nlc_zero:nlc [0]=0:=rfl
theorem lay_one {P:RD} {w:World} {n:Nat} {wh:Option Nat} (hw : ∀ k,wh=some k→isWs k) {body used cs rest:List Nat} {fin:Bool} (hx:P.x.cps.toList.drop n=whL wh++body) (hF:Form body used cs fin) (hb:body=used++rest)
    {ts:List (List Nat × List Nat)} (hT:TokSeq P w (n+(whL wh++used).length) ts):TokSeq P w n ((whL wh++used,cs) :: ts):=
  ⟨fun u hi s1 p1 O1 o hO R=>gettok_ok hO wh hw R hi hx hF,hT⟩
theorem lay_seq {P:RD} {w:World} {q:Nat→Bool} {W:Nat→List Nat} : ∀ (m k n:Nat) (op:Bool),(∀ j<m,WdOk (W (k+j))) →
    (match op with
      | false=>P.x.cps.toList.drop n=sufT q W k m
      | true => ∃ m',m=m' + 1∧P.x.cps.toList.drop n=wdT (q k) (W k)++sufT q W (k+1) m') →
    ∃ ts,TokSeq P w n ts∧ts.map (·.2)=(List.range' k m).map W++[[]]∧nlAll ts=nlc (P.x.cps.toList.drop n)
  | 0,k,n,op,hW,hx=>by
    have hx:P.x.cps.toList.drop n=[]:=by
      cases op with
      | false=>exact hx
      | true=>obtain ⟨m',h,_⟩:=hx; lia
    exact ⟨[([0],[])],⟨fun u hi s1 p1 O1 o hO R=>gettok_end hO R hi hx,trivial⟩,rfl,by rw [hx]; rfl⟩
  | m+1,k,n,op,hW,hx=>by
    obtain ⟨wh,hw,hx⟩ : ∃ wh:Option Nat,(∀ k,wh=some k→isWs k)∧P.x.cps.toList.drop n=whL wh++(wdT (q k) (W k)++sufT q W (k+1) m):=by
      cases op with
      | true =>
        obtain ⟨m',h,hx⟩:=hx
        obtain rfl:m=m' :=by lia
        exact ⟨none,(fun _ h=>nomatch h),hx⟩
      | false =>
        have hx:P.x.cps.toList.drop n=whT (shutAt q k) k++(wdT (q k) (W k)++sufT q W (k+1) m):=hx
        unfold whT at hx
        split at hx
        · exact ⟨none,(fun _ h=>nomatch h),hx⟩
        · exact ⟨some (whD k),(fun j h=>by cases h; exact whD_ws k),hx⟩
    have W0:WdOk (W k):=hW 0 (by lia)
    have hW' : ∀ j<m,WdOk (W (k+1+j)):=fun j hj=>by rw [show k+1+j=k+(j+1) by lia]; exact hW (j+1) (by lia)
    have fin : ∀ (body used rest:List Nat) (f op' : Bool),wdT (q k) (W k)++sufT q W (k+1) m=body→Form body used (W k) f→(body=used++rest∨(used=body++[0]∧rest=[]))→(P.x.cps.toList.drop (n+(whL wh++used).length)=rest→match op' with
          | false=>P.x.cps.toList.drop (n+(whL wh++used).length)=sufT q W (k+1) m
          | true => ∃ m',m=m' + 1∧P.x.cps.toList.drop (n+(whL wh++used).length)=wdT (q (k+1)) (W (k+1))++sufT q W (k+1+1) m') →
        ∃ ts,TokSeq P w n ts∧ts.map (·.2)=(List.range' k (m+1)).map W++[[]]∧nlAll ts=nlc (P.x.cps.toList.drop n):=fun body used rest f op' he hF hb hn=>by
      rw [he] at hx
      have hd:P.x.cps.toList.drop (n+(whL wh++used).length)=rest:=by
        rcases hb with hb | ⟨hb,hr⟩
        · exact drop_app2 (by rw [hx,hb,List.append_assoc])
        · rw [hr]
          have hl:P.x.cps.toList.length≤n+(whL wh++used).length:=by
            have h1:(P.x.cps.toList.drop n).length=(whL wh++body).length:=congrArg List.length hx
            rw [List.length_drop,List.length_append] at h1
            rw [hb,List.length_append,List.length_append]
            lia
          exact List.drop_eq_nil_of_le hl
      obtain ⟨ts,T,e1,e2⟩:=lay_seq m (k+1) _ op' hW' (hn hd)
      refine ⟨(whL wh++used,W k) :: ts,⟨fun u hi s1 p1 O1 o hO R=>gettok_ok hO wh hw R hi hx hF,T⟩, ?_, ?_⟩
      · rw [List.map_cons,e1,List.range'_succ,List.map_cons]; rfl
      · show nlc (whL wh++used)+nlAll ts=_
        rw [e2,hd,hx]
        rcases hb with hb | ⟨hb,hr⟩
        · rw [hb,nlc_app,nlc_app,nlc_app]; lia
        · rw [hb,hr,nlc_app,nlc_app,nlc_app,nlc_zero]; show _+0=_; lia
    cases hq:q k with
    | true =>
      rw [hq] at fin
      exact fin (34 :: (encL hidQ (W k)++34 :: sufT q W (k+1) m)) ([34]++(encL hidQ (W k)++[34])) (sufT q W (k+1) m) false false (by
        show 34 :: (encL hidQ (W k)++[34])++_=_
        simp) (.q _ _ (fun c hc=>⟨(W0.ch c hc).1,(W0.ch c hc).2.1⟩) W0.len) (.inl (by simp)) (fun h=>h)
    | false =>
      rw [hq] at fin
      obtain ⟨c,cs,hc⟩ : ∃ c cs,W k=c :: cs:=by
        cases hwk:W k with
        | nil=>exact absurd hwk W0.ne
        | cons c cs=>exact ⟨c,cs,rfl⟩
      have c0:0<c∧c<128∧c≠13:=W0.ch c (by rw [hc]; exact .head _)
      have cs0 : ∀ d∈cs,0<d∧d<128∧d≠13:=fun d hd=>W0.ch d (by rw [hc]; exact .tail _ hd)
      have cl:cs.length≤900:=by have:=W0.len; rw [hc,List.length_cons] at this; lia
      have ee:encL hidU (c :: cs)=encC hidU c++encL hidU cs:=rfl
      cases m with
      | zero =>
        refine fin (encC hidU c++(encL hidU cs++restU none [])) (encC hidU c++(encL hidU cs++endU none)) [] true false ?_ ?_ ?_ (fun h=>h)
        · rw [hc]
          show encL hidU (c :: cs)++[]=encC hidU c++(encL hidU cs++[])
          rw [ee,List.append_nil,List.append_nil]
        · rw [hc]; exact .u none (fun _ h=>nomatch h) c cs [] c0 cs0 cl
        · refine .inr ⟨?_,rfl⟩
          show encC hidU c++(encL hidU cs++[0])=(encC hidU c++(encL hidU cs++[]))++[0]
          simp
      | succ m =>
        have hs:sufT q W (k+1) (m+1)=whD (k+1) :: (wdT (q (k+1)) (W (k+1))++sufT q W (k+1+1) m):=by
          show whT (q k) (k+1)++_=_
          rw [hq]; rfl
        refine fin (encC hidU c++(encL hidU cs++restU (some (whD (k+1))) (wdT (q (k+1)) (W (k+1))++sufT q W (k+1+1) m))) (encC hidU c++(encL hidU cs++endU (some (whD (k+1))))) (wdT (q (k+1)) (W (k+1))++sufT q W (k+1+1) m) false true ?_ ?_ ?_ ?_
        · rw [hc,hs]
          show encL hidU (c :: cs)++_=encC hidU c++(encL hidU cs++(whD (k+1) :: _))
          rw [ee,List.append_assoc]
        · rw [hc]; exact .u (some (whD (k+1))) (fun j h=>by cases h; exact whD_ws _) c cs _ c0 cs0 cl
        · refine .inl ?_
          show encC hidU c++(encL hidU cs++(whD (k+1) :: _))=(encC hidU c++(encL hidU cs++[whD (k+1)]))++_
          simp
        · exact fun h=>⟨m,rfl,h⟩
theorem digs_13 : ∀ n<61,(digs (Int.ofNat n - 30)).all (fun c=>decide (c≠13))=true:=by decide +kernel
theorem word_ok {x:Nat→Int} (h : ∀ i, -30≤x i∧x i≤30) (k:Nat):WdOk (wordL x k):=by
  unfold wordL
  split
  · have:0<nmOf (k / 2)∧nmOf (k / 2)<128∧nmOf (k / 2)≠13:=by unfold nmOf; split <;> decide
    exact ⟨by simp,fun c hc=>by rw [List.mem_singleton.mp hc]; exact this,by simp⟩
  · generalize k / 2=i
    obtain ⟨⟨h1,h2⟩,h3⟩:=digs_ok (h i)
    have hm:=mark_in (x i) i
    have hm:0<markOf (x i) i∧markOf (x i) i<128∧markOf (x i) i≠13:=by
      generalize markOf (x i) i=m at hm
      have : ∀ m∈[124,34,92,32,40,9,10],0<m∧m<128∧m≠13:=by decide
      exact this m hm
    refine ⟨by simp [replyL],fun c hc => ?_, ?_⟩
    · unfold replyL at hc
      have lit : ∀ m∈[50,57,40,41],0<m∧m<128∧m≠13:=by decide
      rcases List.mem_append.mp hc with hc | hc
      · simp only [List.mem_cons,List.not_mem_nil,or_false] at hc
        rcases hc with rfl | rfl | rfl | rfl | rfl | rfl | rfl
        · decide
        · decide
        · decide
        · decide
        · exact hm
        · exact hm
        · exact hm
      rcases List.mem_append.mp hc with hc | hc
      · have hd:=h3 c hc
        unfold digOk at hd
        simp only [Bool.and_eq_true,decide_eq_true_eq] at hd
        obtain ⟨n,hn,he⟩:=of_bd (h i)
        have h13:=digs_13 n hn
        rw [← he] at h13
        exact ⟨hd.1.1.1.1.1.1,hd.1.1.1.1.1.2,of_decide_eq_true (List.all_eq_true.mp h13 c hc)⟩
      · simp only [List.mem_cons,List.not_mem_nil,or_false] at hc
        rcases hc with rfl | rfl
        · exact hm
        · decide
    · unfold replyL
      simp only [List.length_append,List.length_cons,List.length_nil]
      lia
theorem sheet_toks {P:RD} {w:World} {q:Nat→Bool} {x:Nat→Int} (h : ∀ i, -30≤x i∧x i≤30) (hT:P.x.cps.toList=layT q (wordL x) 8) :
    ∃ ts,TokSeq P w 0 ts∧ts.map (·.2)=[wordL x 0,wordL x 1,wordL x 2,wordL x 3,wordL x 4,wordL x 5,wordL x 6,wordL x 7,[]]∧nlAll ts=nlc P.x.cps.toList:=by
  have e:=lay_suf q (wordL x) 8 0
  rw [show layT q (wordL x) 0=[] from rfl,List.nil_append,Nat.zero_add] at e
  obtain ⟨ts,T,e1,e2⟩:=lay_seq (P:=P) (w:=w) (q:=q) (W:=wordL x) 8 0 0 false (fun j _=>by rw [Nat.zero_add]; exact word_ok h j) (by rw [List.drop_zero,hT,e])
  rw [List.drop_zero] at e2
  exact ⟨ts,T,e1,e2⟩
end Mine
end
section
open PySem PySem.W PySem.W.X PySem.Calls PyProof.Rows PySem.SeqAt
namespace Mine
noncomputable def lmK (σ : Nat):List Nat→Nat→Nat
  | [],m=>m
  | j :: q,m=>cond (σ.testBit (m ||| (1 <<< j))) (lmK σ q (m ||| (1 <<< j))) (lmK σ q 0)
noncomputable def cmK:List Nat→Nat
  | []=>0
  | j :: c=>(1 <<< j) ||| cmK c
noncomputable def rmK (σ : Nat):List (List Nat)→Nat
  | []=>0
  | c :: cs=>cond (σ.testBit (cmK c)) (cmK c ||| rmK σ cs) (rmK σ cs)
noncomputable def cntK (l:List Nat):Nat:=l.foldl (fun a m=>a+(1 <<< (6*m))) 0
noncomputable def okK (σ : Nat):Bool:=cntK (ringTab.map fun z=>lmK σ z.1 0) == cntK (ringTab.map fun z=>rmK σ z.2)
noncomputable def consK (σ k:Nat) (b:Bool):Bool:=(List.range k).all fun a=>a == 0 || a &&& k != a || (σ.testBit a != b || σ.testBit (k - a) != b || true) && (!(σ.testBit a == !b && σ.testBit (k - a) == !b))
noncomputable def goK:Nat→Nat→Nat→Bool
  | 0,k, σ => okK σ
  | f+1,k, σ => (!consK σ k true || goK f (k+1) (σ ||| (1 <<< k))) && (!consK σ k false || goK f (k+1) σ)
noncomputable def nK:Nat→Nat→Nat→Nat
  | 0,k, σ => 1
  | f+1,k, σ => (if consK σ k true then nK f (k+1) (σ ||| (1 <<< k)) else 0)+(if consK σ k false then nK f (k+1) σ else 0)
theorem goK_ok:goK 15 1 1=true:=by kernel_rfl
end Mine
end
section
open PySem PySem.W PySem.W.X PySem.Calls PyProof.Rows PySem.SeqAt
namespace Mine
noncomputable def tS (x:Nat→Int) (m j:Nat):Int:=cond (m.testBit j) (x j) 0
noncomputable def mS (x:Nat→Int) (m:Nat):Int:=tS x m 0+tS x m 1+tS x m 2+tS x m 3
theorem tS_or {x:Nat→Int} {a b j:Nat} (h:(a.testBit j && b.testBit j)=false):tS x (a ||| b) j=tS x a j+tS x b j:=by
  unfold tS
  rw [Nat.testBit_or]
  cases ha:a.testBit j <;> cases hb:b.testBit j <;> simp_all
theorem mS_or {x:Nat→Int} {a b:Nat} (h : ∀ j<4,(a.testBit j && b.testBit j)=false):mS x (a ||| b)=mS x a+mS x b:=by
  unfold mS
  rw [tS_or (h 0 (by decide)),tS_or (h 1 (by decide)),tS_or (h 2 (by decide)),tS_or (h 3 (by decide))]
  lia
theorem mS_zero {x:Nat→Int}:mS x 0=0:=rfl
theorem mS_one {x:Nat→Int} : ∀ j<4,mS x (1 <<< j)=x j
  | 0,_=>by show x 0+0+0+0=x 0; lia
  | 1,_=>by show 0+x 1+0+0=x 1; lia
  | 2,_=>by show 0+0+x 2+0=x 2; lia
  | 3,_=>by show 0+0+0+x 3=x 3; lia
  | n+4,h=>absurd h (by lia)
theorem one_bit : ∀ j<4,∀ i<4,(1 <<< j:Nat).testBit i=decide (i=j):=by decide
theorem mS_put {x:Nat→Int} {m j:Nat} (hj:j<4) (h:m.testBit j=false):mS x (m ||| (1 <<< j))=mS x m+x j:=by
  rw [mS_or,mS_one j hj]
  intro i hi
  rw [one_bit j hj i hi]
  by_cases e:i=j
  · subst e; rw [h]; rfl
  · rw [decide_eq_false e,Bool.and_false]
theorem bit_put {m j i:Nat} (hj:j<4) (hi:i<4):(m ||| (1 <<< j)).testBit i=(m.testBit i || decide (i=j)):=by
  rw [Nat.testBit_or,one_bit j hj i hi]
noncomputable def runL (x:Nat→Int):List Nat→Int→Int
  | [],a=>a
  | j :: q,a=>runL x q (max 0 (a+x j))
noncomputable def Sg (x:Nat→Int) (σ : Nat):Prop:= ∀ m<16, σ.testBit m=decide (0≤mS x m)
theorem put_lt : ∀ m<16,∀ j<4,m ||| (1 <<< j)<16:=by decide
theorem lm_sound {x:Nat→Int} {σ : Nat} (H:Sg x σ) : ∀ (q:List Nat) (m:Nat),m<16→q.Nodup→(∀ j∈q,j<4∧m.testBit j=false)→runL x q (mS x m)=mS x (lmK σ q m)∧lmK σ q m<16
  | [],m,hm,_,_=>⟨rfl,hm⟩
  | j :: q,m,hm,nd,hq=>by
    obtain ⟨hj,hb⟩:=hq j (.head _)
    obtain ⟨n1,n2⟩:=List.nodup_cons.mp nd
    have hlt:=put_lt m hm j hj
    have e:max 0 (mS x m+x j)=max 0 (mS x (m ||| (1 <<< j))):=by rw [mS_put hj hb]
    show runL x q (max 0 (mS x m+x j))=mS x (cond (σ.testBit (m ||| (1 <<< j))) (lmK σ q (m ||| (1 <<< j))) (lmK σ q 0))∧cond (σ.testBit (m ||| (1 <<< j))) (lmK σ q (m ||| (1 <<< j))) (lmK σ q 0)<16
    rw [e,H _ hlt]
    by_cases h:(0:Int)≤mS x (m ||| (1 <<< j))
    · rw [decide_eq_true h,show max 0 (mS x (m ||| (1 <<< j)))=mS x (m ||| (1 <<< j)) by omega]
      refine lm_sound H q _ hlt n2 fun i hi => ?_
      obtain ⟨hi4,hib⟩:=hq i (.tail _ hi)
      refine ⟨hi4, ?_⟩
      rw [bit_put hj hi4,hib,Bool.false_or]
      exact decide_eq_false fun e=>n1 (e ▸ hi)
    · rw [decide_eq_false h,show max 0 (mS x (m ||| (1 <<< j)))=mS x 0 by rw [mS_zero]; omega]
      exact lm_sound H q 0 (by decide) n2 fun i hi=>⟨(hq i (.tail _ hi)).1,Nat.zero_testBit i⟩
theorem cm_sum {x:Nat→Int} : ∀ (c:List Nat),c.Nodup→(∀ j∈c,j<4)→mS x (cmK c)=(c.map x).sum ∧ ∀ i<4,(cmK c).testBit i=decide (i∈c)
  | [],_,_=>⟨rfl,fun i _=>by rw [show cmK []=0 from rfl,Nat.zero_testBit]; rfl⟩
  | j :: c,nd,h=>by
    obtain ⟨n1,n2⟩:=List.nodup_cons.mp nd
    have hj:=h j (.head _)
    obtain ⟨h1,h2⟩:=cm_sum (x:=x) c n2 fun i hi=>h i (.tail _ hi)
    refine ⟨?_,fun i hi => ?_⟩
    · show mS x ((1 <<< j) ||| cmK c)=x j+(c.map x).sum
      rw [mS_or,mS_one j hj,h1]
      intro i hi
      rw [one_bit j hj i hi,h2 i hi]
      by_cases e:i=j
      · subst e; rw [decide_eq_false n1,Bool.and_false]
      · rw [decide_eq_false e,Bool.false_and]
    · show ((1 <<< j) ||| cmK c).testBit i=_
      rw [Nat.testBit_or,one_bit j hj i hi,h2 i hi]
      by_cases e:i=j <;> by_cases q:i∈c <;> simp [e,q] <;> simp_all
theorem cm_lt : ∀ (c:List Nat),(∀ j∈c,j<4)→cmK c<16
  | [],_=>by decide
  | j :: c,h=>by
    have h2:=cm_lt c fun i hi=>h i (.tail _ hi)
    show (1 <<< j) ||| cmK c<2 ^ 4
    refine Nat.or_lt_two_pow ?_ h2
    have:=h j (.head _)
    have : ∀ j<4,1 <<< j<2 ^ 4:=by decide
    exact this j (h j (.head _))
noncomputable def rV (x:Nat→Int):List (List Nat)→Int
  | []=>0
  | c :: cs=>max 0 ((c.map x).sum)+rV x cs
theorem rm_sound {x:Nat→Int} {σ : Nat} (H:Sg x σ) : ∀ (cs:List (List Nat)),cs.flatten.Nodup→(∀ j∈cs.flatten,j<4)→rV x cs=mS x (rmK σ cs)∧rmK σ cs<16 ∧ ∀ i<4,(rmK σ cs).testBit i=true→i∈cs.flatten
  | [],_,_=>⟨mS_zero.symm,(show 0<16 by decide),fun i _ h=>by rw [show rmK σ []=0 from rfl,Nat.zero_testBit] at h; cases h⟩
  | c :: cs,nd,h=>by
    rw [List.flatten_cons] at nd h
    obtain ⟨n1,n2,n3⟩:=List.nodup_append.mp nd
    have hc : ∀ j∈c,j<4:=fun j hj=>h j (List.mem_append.mpr (.inl hj))
    obtain ⟨a1,a2⟩:=cm_sum (x:=x) c n1 hc
    have a3:=cm_lt c hc
    obtain ⟨b1,b2,b3⟩:=rm_sound H cs n2 fun j hj=>h j (List.mem_append.mpr (.inr hj))
    show max 0 ((c.map x).sum)+rV x cs=mS x (cond (σ.testBit (cmK c)) (cmK c ||| rmK σ cs) (rmK σ cs))∧cond (σ.testBit (cmK c)) (cmK c ||| rmK σ cs) (rmK σ cs)<16 ∧ ∀ i<4,(cond (σ.testBit (cmK c)) (cmK c ||| rmK σ cs) (rmK σ cs)).testBit i=true→i∈(c :: cs).flatten
    rw [H _ a3,← a1,b1]
    by_cases q:(0:Int)≤mS x (cmK c)
    · rw [decide_eq_true q]
      show max 0 (mS x (cmK c))+mS x (rmK σ cs)=mS x (cmK c ||| rmK σ cs)∧cmK c ||| rmK σ cs<2 ^ 4 ∧ ∀ i<4,(cmK c ||| rmK σ cs).testBit i=true→i∈(c :: cs).flatten
      refine ⟨?_,Nat.or_lt_two_pow a3 b2,fun i hi hb => ?_⟩
      · rw [mS_or]
        · lia
        · intro i hi
          rw [a2 i hi]
          by_cases e:i∈c
          · cases hb:(rmK σ cs).testBit i with
            | false=>rw [Bool.and_false]
            | true=>exact absurd rfl (n3 i e i (b3 i hi hb))
          · rw [decide_eq_false e,Bool.false_and]
      · rw [Nat.testBit_or,a2 i hi] at hb
        rw [List.flatten_cons]
        rcases Bool.or_eq_true_iff.mp hb with e | e
        · exact List.mem_append.mpr (.inl (of_decide_eq_true e))
        · exact List.mem_append.mpr (.inr (b3 i hi e))
    · rw [decide_eq_false q]
      refine ⟨?_,b2,fun i hi hb => ?_⟩
      · show max 0 (mS x (cmK c))+mS x (rmK σ cs)=mS x (rmK σ cs)
        lia
      · rw [List.flatten_cons]
        exact List.mem_append.mpr (.inr (b3 i hi hb))
theorem fold_add : ∀ (l:List Int) (a:Int),l.foldl (· + ·) a=a+l.sum
  | [],a=>by show a=a+0; lia
  | b :: l,a=>by rw [List.foldl_cons,fold_add l,List.sum_cons]; lia
theorem rV_eq (x:Nat→Int) (cs:List (List Nat)):ringVal cs x=rV x cs:=by
  unfold ringVal
  rw [fold_add,Int.zero_add]
  induction cs with
  | nil=>rfl
  | cons c cs ih=>rw [List.map_cons,List.sum_cons,ih]; rfl
noncomputable def pk (f:Nat→Nat):Nat→Nat
  | 0=>0
  | n+1=>pk f n+f n*64 ^ n
theorem pk_lt {f:Nat→Nat} (h : ∀ m,f m<64) : ∀ n,pk f n<64 ^ n
  | 0=>by show 0<1; decide
  | n+1=>by
    have a:=pk_lt h n
    have b:=h n
    show pk f n+f n*64 ^ n<64 ^ n*64
    have:f n*64 ^ n≤63*64 ^ n:=Nat.mul_le_mul_right _ (by lia)
    lia
theorem pk_inj {f g:Nat→Nat} (hf : ∀ m,f m<64) (hg : ∀ m,g m<64) : ∀ n,pk f n=pk g n → ∀ m<n,f m=g m
  | 0,_,m,h=>absurd h (by lia)
  | n+1,e,m,h=>by
    have a:=pk_lt hf n
    have b:=pk_lt hg n
    have e:pk f n+f n*64 ^ n=pk g n+g n*64 ^ n:=e
    have hd:f n=g n:=by
      have h1:(pk f n+f n*64 ^ n) / 64 ^ n=f n:=by rw [Nat.add_mul_div_right _ _ (Nat.pow_pos (by decide)),Nat.div_eq_of_lt a,Nat.zero_add]
      have h2:(pk g n+g n*64 ^ n) / 64 ^ n=g n:=by rw [Nat.add_mul_div_right _ _ (Nat.pow_pos (by decide)),Nat.div_eq_of_lt b,Nat.zero_add]
      rw [← h1,← h2,e]
    rcases Nat.lt_succ_iff_lt_or_eq.mp h with q | rfl
    · rw [hd] at e
      exact pk_inj hf hg n (by lia) m q
    · exact hd
theorem pk_put (f:Nat→Nat) (a:Nat) : ∀ n,pk (fun m=>f m+(if a=m then 1 else 0)) n=pk f n+(if a<n then 64 ^ a else 0)
  | 0=>by show 0=0+_; rw [if_neg (by lia)]
  | n+1=>by
    show pk (fun m=>f m+(if a=m then 1 else 0)) n+(f n+if a=n then 1 else 0)*64 ^ n=pk f n+f n*64 ^ n+_
    rw [pk_put f a n]
    by_cases e:a=n
    · subst e
      rw [if_neg (by lia),if_pos rfl,if_pos (by lia),Nat.add_mul]
      lia
    · rw [if_neg e]
      by_cases q:a<n
      · rw [if_pos q,if_pos (by lia),Nat.add_zero]; lia
      · rw [if_neg q,if_neg (by lia)]; simp
theorem cnt_acc : ∀ (l:List Nat) (z:Nat),(∀ m∈l,m<16)→l.foldl (fun a m=>a+(1 <<< (6*m))) z=z+pk (fun m=>l.count m) 16
  | [],z,_=>by
    have : ∀ n,pk (fun m=>List.count m []) n=0:=fun n=>by
      induction n with
      | zero=>rfl
      | succ n ih=>show pk _ n+List.count n []*_=0; rw [ih,List.count_nil]; lia
    rw [this]; rfl
  | a :: l,z,h=>by
    rw [List.foldl_cons,cnt_acc l _ fun m hm=>h m (.tail _ hm)]
    have e:(fun m=>List.count m (a :: l))=fun m=>l.count m+(if a=m then 1 else 0):=by
      funext m
      rw [List.count_cons]
      by_cases q:a=m <;> simp [q]
    rw [e,pk_put,if_pos (h a (.head _)),Nat.shiftLeft_eq,Nat.pow_mul,show 2 ^ 6=64 from rfl]
    lia
theorem perm_of_cnt {l l' : List Nat} (hl : ∀ m∈l,m<16) (hl' : ∀ m∈l',m<16) (h1:l.length<64) (h2:l'.length<64) (h:cntK l=cntK l'):l.Perm l' :=by
  unfold cntK at h
  rw [cnt_acc l 0 hl,cnt_acc l' 0 hl',Nat.zero_add,Nat.zero_add] at h
  have z:=pk_inj (fun m=>Nat.lt_of_le_of_lt List.count_le_length h1) (fun m=>Nat.lt_of_le_of_lt List.count_le_length h2) 16 h
  rw [List.perm_iff_count]
  intro a
  by_cases q:a<16
  · exact z a q
  · rw [List.count_eq_zero.mpr fun e=>q (hl a e),List.count_eq_zero.mpr fun e=>q (hl' a e)]
theorem sub_bits : ∀ k<16,∀ a<k,a &&& k=a→(∀ j<4,(a.testBit j && (k - a).testBit j)=false)∧a ||| (k - a)=k:=by decide +kernel
theorem mS_sub {x:Nat→Int} {k a:Nat} (hk:k<16) (ha:a<k) (h:a &&& k=a):mS x k=mS x a+mS x (k - a):=by
  obtain ⟨h1,h2⟩:=sub_bits k hk a ha h
  rw [← mS_or h1,h2]
theorem cons_ok {x:Nat→Int} {σ k:Nat} (hk:k<16) (h : ∀ m<k, σ.testBit m=decide (0≤mS x m)):consK σ k (decide (0≤mS x k))=true:=by
  unfold consK
  rw [List.all_eq_true]
  intro a ha
  have ha:a<k:=List.mem_range.mp ha
  by_cases h0:a=0
  · subst h0; rfl
  by_cases hs:a &&& k=a
  · have hka:k - a<k:=by lia
    rw [h a ha,h (k - a) hka]
    have e:=mS_sub (x:=x) hk ha hs
    by_cases p:(0:Int)≤mS x a <;> by_cases q:(0:Int)≤mS x (k - a) <;> by_cases r:(0:Int)≤mS x k <;> simp [p,q,r] <;> lia
  · simp [hs]
theorem go_sound {x:Nat→Int} : ∀ (f k σ : Nat),f+k=16 → σ < 2 ^ k→(∀ m<k, σ.testBit m=decide (0≤mS x m))→goK f k σ = true → ∃ τ,Sg x τ ∧ okK τ = true
  | 0,k, σ,hk,_,h,g=>⟨σ,fun m hm=>h m (by lia),g⟩
  | f+1,k, σ,hk,hσ,h,g=>by
    have g:((!consK σ k true || goK f (k+1) (σ ||| (1 <<< k))) && (!consK σ k false || goK f (k+1) σ))=true:=g
    obtain ⟨g1,g2⟩:=Bool.and_eq_true_iff.mp g
    have c:=cons_ok (by lia) h
    have hσ' : σ < 2 ^ (k+1):=Nat.lt_of_lt_of_le hσ (Nat.pow_le_pow_right (by decide) (by lia))
    have hbk : σ.testBit k=false:=Nat.testBit_lt_two_pow hσ
    by_cases q:(0:Int)≤mS x k
    · rw [decide_eq_true q] at c
      rw [c] at g1
      refine go_sound f (k+1) (σ ||| (1 <<< k)) (by lia) (Nat.or_lt_two_pow hσ' ?_) (fun m hm => ?_) g1
      · rw [Nat.shiftLeft_eq,Nat.one_mul]; exact Nat.pow_lt_pow_right (by decide) (by lia)
      · rw [Nat.testBit_or,Nat.shiftLeft_eq,Nat.one_mul]
        rcases Nat.lt_succ_iff_lt_or_eq.mp hm with e | rfl
        · rw [Nat.testBit_two_pow_of_ne (by lia),Bool.or_false]; exact h m e
        · rw [Nat.testBit_two_pow_self,Bool.or_true,decide_eq_true q]
    · rw [decide_eq_false q] at c
      rw [c] at g2
      refine go_sound f (k+1) σ (by lia) hσ' (fun m hm => ?_) g2
      rcases Nat.lt_succ_iff_lt_or_eq.mp hm with e | rfl
      · exact h m e
      · rw [hbk,decide_eq_false q]
theorem tab_ok : ∀ z∈ringTab,(z.1.Nodup ∧ ∀ j∈z.1,j<4)∧(z.2.flatten.Nodup ∧ ∀ j∈z.2.flatten,j<4):=by decide +kernel
theorem spitzer (x:Nat→Int):(ringTab.map fun z=>runL x z.1 0).Perm (ringTab.map fun z=>ringVal z.2 x):=by
  obtain ⟨τ,H,hok⟩:=go_sound (x:=x) 15 1 1 rfl (by decide) (fun m hm=>by
    obtain rfl:m=0:=by lia
    rw [mS_zero]; rfl) goK_ok
  have L : ∀ z∈ringTab,runL x z.1 0=mS x (lmK τ z.1 0)∧lmK τ z.1 0<16:=fun z hz=>by
    obtain ⟨⟨h1,h2⟩,_⟩:=tab_ok z hz
    exact lm_sound H z.1 0 (by decide) h1 fun j hj=>⟨h2 j hj,Nat.zero_testBit j⟩
  have R : ∀ z∈ringTab,ringVal z.2 x=mS x (rmK τ z.2)∧rmK τ z.2<16:=fun z hz=>by
    obtain ⟨_,h1,h2⟩:=tab_ok z hz
    have a:=rm_sound H z.2 h1 h2
    exact ⟨(rV_eq x z.2).trans a.1,a.2.1⟩
  have e1:(ringTab.map fun z=>runL x z.1 0)=(ringTab.map fun z=>lmK τ z.1 0).map (mS x):=by
    rw [List.map_map]; exact List.map_congr_left fun z hz=>(L z hz).1
  have e2:(ringTab.map fun z=>ringVal z.2 x)=(ringTab.map fun z=>rmK τ z.2).map (mS x):=by
    rw [List.map_map]; exact List.map_congr_left fun z hz=>(R z hz).1
  rw [e1,e2]
  refine List.Perm.map _ (perm_of_cnt ?_ ?_ ?_ ?_ (beq_iff_eq.mp hok))
  · intro m hm; obtain ⟨z,hz,rfl⟩:=List.mem_map.mp hm; exact (L z hz).2
  · intro m hm; obtain ⟨z,hz,rfl⟩:=List.mem_map.mp hm; exact (R z hz).2
  · rw [List.length_map]; decide
  · rw [List.length_map]; decide
theorem sorted_eq : ∀ {l l' : List Int},l.Perm l' → l.Pairwise (· ≤ ·)→l'.Pairwise (· ≤ ·)→l=l'
  | [],l',h,_,_=>(List.nil_perm.mp h).symm
  | a :: l,[],h,_,_=>absurd (List.perm_nil.mp h) (by simp)
  | a :: l,b :: l',h,p,p' => by
    obtain ⟨p1,p2⟩:=List.pairwise_cons.mp p
    obtain ⟨q1,q2⟩:=List.pairwise_cons.mp p'
    have h1:a≤b:=by
      rcases List.mem_cons.mp (h.mem_iff.mpr (List.mem_cons_self (a:=b) (l:=l'))) with e | e
      · lia
      · exact p1 b e
    have h2:b≤a:=by
      rcases List.mem_cons.mp (h.mem_iff.mp (List.mem_cons_self (a:=a) (l:=l))) with e | e
      · lia
      · exact q1 a e
    obtain rfl:a=b:=by lia
    rw [sorted_eq (List.Perm.cons_inv h) p2 q2]
end Mine
end
section
open PySem PySem.W PySem.W.X PySem.Calls PyProof.Rows PySem.SeqAt
namespace Mine
noncomputable def put (f:Nat→Nat) (i v:Nat):Nat→Nat:=fun j=>bif Nat.beq j i then v else f j
noncomputable def wordS (x:Nat→Int):Nat→Str | 0=>S [34] | 1=>replyS (x 0) 0 | 2=>S [92] | 3=>replyS (x 1) 1 | 4=>S [32] | 5=>replyS (x 2) 2 | 6=>S [10] | _=>replyS (x 3) 3
noncomputable def wordE (x:Nat→Int):Nat→Str | 0=>S [34] | 1=>replyS (x 0) 0 | 2=>S [92] | 3=>replyS (x 1) 1 | 4=>S [32] | 5=>replyS (x 2) 2 | 6=>S [10] | 7=>replyS (x 3) 3 | _=>S []
theorem wordS_list (x:Nat→Int) : ∀ k<8,(wordS x k).cps.toList=wordL x k
  | 0,_=>rfl
  | 1,_=>reply_list _ _
  | 2,_=>rfl
  | 3,_=>reply_list _ _
  | 4,_=>rfl
  | 5,_=>reply_list _ _
  | 6,_=>rfl
  | 7,_=>reply_list _ _
  | n+8,h=>absurd h (by lia)
theorem kt63 (P:Params):(ktP P).get 63=none:=by kernel_rfl
theorem kt70 (P:Params):(ktP P).get 70=none:=by kernel_rfl
theorem kt193 (P:Params):(ktP P).get 193=none:=by kernel_rfl
noncomputable def rdZ:RD:=⟨0,0,0,0,0,0,0,0,0,0,0,0,0,S [],0,fun _=>0,default,default,fun _ => .none⟩
noncomputable def rsZ:RS:={ln:=0,tl:=0,i:=0,ti:=0,tok:=S [],tt:=0,ch:=S [],tc:=0,eF:=0,g:=0}
noncomputable def me0:ME:={b:=fun _=>0,k:=fun _=>0,g:=fun _=>0,a0:=0,x:=fun _=>0,u:=fun _=>0,eX:=0,a1:=0,W:=fun _=>S [],tW:=fun _=>0,eW:=0,T:=S [],tT:=0,ac6:=0,ac7:=0,o193:=⟨.none,none, .plain, #[]⟩,R:=rdZ,u0:=rsZ,u9:=rsZ,oI4:=⟨.none,none, .plain, #[]⟩,V:=fun _=>S [],tV:=fun _=>0,n4:=0,z4:=0,zv4:= .none,zn4:=0,cnt:=0,tc:=0,oI7:=⟨.none,none, .plain, #[]⟩,ap:=fun _=>0,nm:=fun _=>S [],tn:=fun _=>0,pv:=fun _=>0,tp:=fun _=>0,n7:=0,z7:=0,zv7:= .none,zn7:=0,aO:=0,ao:=fun _=>0,tq:=0,nO:=0,aPn:=0,aPD:=0,kP:=0,t12:=0,eP13:=0,t14:=0,oI16:=⟨.none,none, .plain, #[]⟩,ls:=[],n16:=0,z16:=0,zv16:= .none,zn16:=0,eP16:=0,tz16:=0,aWn:=0,aWD:=0,kW:=0,a18:=0,l18:=[],n18:=0,oI19:=⟨.none,none, .plain, #[]⟩,rs:=[],n19:=0,z19:=0,zv19:= .none,zn19:=0,eW19:=0,a20:=0,l20:=[],n20:=0}
structure MF (w:World) (c:GX) (e:ME) (n:Nat):Prop where
  f0:0<n → ∀ i, -30≤e.x i∧e.x i≤30
  f1:1<n→e.W=wordS e.x
  f2:2<n → ∃ q,e.T.cps.toList=layT q (wordL e.x) 8
  f3:3<n→e.R.x=e.T∧e.u0.i=0∧e.u0.ln=1 ∧ ∃ vs,e.o193=⟨.none,none, .fields vs, #[]⟩
  f4:4<n→e.V=wordE e.x∧e.u9.ln=1+nlc e.T.cps.toList
  f6:6<n→e.cnt=nlc e.T.cps.toList
  f7:7<n→e.nm=(fun i=>S [nmOf i])∧e.pv=e.x
  f16:16<n → ∃ ys:List (Int × Nat),e.ls=ys.map (fun y=>Value.int y.1 y.2)∧ys.map (·.1)=ringTab.map fun z=>runL e.x z.1 0
  f18:18<n → ∃ ns,IntsAre e.l18 ns∧ns.Perm (ringTab.map fun z=>runL e.x z.1 0)∧ns.Pairwise (· ≤ ·)
  f19:19<n → ∃ ys:List (Int × Nat),e.rs=ys.map (fun y=>Value.int y.1 y.2)∧ys.map (·.1)=ringTab.map fun z=>ringVal z.2 e.x
  f20:20<n → ∃ ns,IntsAre e.l20 ns∧ns.Perm (ringTab.map fun z=>ringVal z.2 e.x)∧ns.Pairwise (· ≤ ·)
noncomputable abbrev mOra:Ora:={exs:=[[0],[13,14],[15,14,1,2],[3],[27,28,29,8,16,17,18,19,20,21,22,23,24,25],[28,31],[],[33,34,35,7,15],[34,42,36,37,38,39,44,45,46,47],[51,68],[],[],[114,115],[114,115],[114,115],[118,120,117,119],[122,123,124,10,5,9,11,89,114,115,90,91,92,93,94,95,96,97,98,99,100,101,102,103,104,105,106,107,108,109,110,111,112,113,13,73,1],[],[123],[128,129,130,12,5,9,89,90,91,92,93,94,95,96,97,98,99,100,101,102,103,104,105,106,107,108,109,110,111,112,113,13,73,125,126],[129],[127,131]]}
noncomputable abbrev mV (w:World) (p4:Pos) (c:GX):Cfg:=Vk w [(.builtin "claim.caller" ⟨[],[]⟩,p4)] [0,1,2,3] c.g mOra
noncomputable def mEnd (aS:Addr) (xs:List Value) (eS:Nat) (e:ME):Led:=[(aS,listO xs eS),tab63 e.ac6,(70,tabO 29 32 e.ac7),(193,e.o193)]
structure MT (w:World) (aS:Addr) (xs:List Value) (eS:Nat) (p4:Pos) (c:GX) (Q:Result ⊕ Code→Shared→Prop):Prop where
  isI:Ints xs
  len:xs.length≤100
  hq : ∀ e,MF w c e 22 → ∀ s base off tk gb,Pst (mV w p4 c) s [0,1,2,3] ((mEnd aS xs eS e).map some) base off tk gb→Bare s→Q (.inl (.ok (.ret (.bool true)))) s
end Mine
end
section
open PySem PySem.W PySem.W.X PySem.Calls PyProof.Rows PySem.SeqAt PySem.Builtin PySem.Builtin.Str PySem.StrLaws
namespace Mine
theorem subAt_one (x:Str) (c k:Nat) (hk:k<x.length):subAt x ⟨#[c]⟩ k=true↔x.cps.toList[k]'(by simpa [Str.length] using hk)=c:=by
  unfold subAt
  rw [beq_iff_eq]
  have hk' : k<x.cps.toList.length:=by simpa [Str.length] using hk
  constructor
  · intro h
    have h:=congrArg Array.toList h
    rw [Array.toList_extract] at h
    have e:x.cps.toList.extract k (k+(⟨#[c]⟩:Str).length)=[x.cps.toList[k]]:=by
      show (x.cps.toList.drop k).take (k+1 - k)=_
      rw [Nat.add_sub_cancel_left,List.drop_eq_getElem_cons hk']; rfl
    rw [e] at h
    exact (List.cons.inj h).1
  · intro h
    apply Array.toList_inj.mp
    rw [Array.toList_extract]
    show (x.cps.toList.drop k).take (k+1 - k)=[c]
    rw [Nat.add_sub_cancel_left,List.drop_eq_getElem_cons hk',h]; rfl
theorem occ_one (x:Str) (c:Nat) : ∀ (m k:Nat) (st:Array Nat × Nat),k+m=x.length+1→st.1.size≤k→st.2≤k →
    (forIn (m:=Id) (List.range' k m) st (occBody x ⟨#[c]⟩ x.length (x.length+1))).run.fst.size=st.1.size+(x.cps.toList.drop k).count c
  | 0,k,st,h,h1,h2=>by
    have:x.cps.toList.drop k=[]:=List.drop_eq_nil_of_le (by have:x.cps.toList.length=x.length:=(by simp [Str.length]); lia)
    rw [this]; rfl
  | m+1,k,st,h,h1,h2=>by
    have hl:x.cps.toList.length=x.length:=by simp [Str.length]
    rw [List.range'_succ,List.forIn_cons]
    unfold occBody
    by_cases hk:k<x.length
    · have hd:x.cps.toList.drop k=x.cps.toList[k] :: x.cps.toList.drop (k+1):=List.drop_eq_getElem_cons (by lia)
      have hs:=subAt_one x c k hk
      by_cases q:x.cps.toList[k]=c
      · rw [if_pos ⟨⟨⟨by lia,h2⟩,by show k+1≤_; lia⟩,hs.mpr q⟩]
        have:=occ_one x c m (k+1) (st.1.push k,k+(⟨#[c]⟩:Str).length) (by lia) (by simp; lia) (Nat.le_refl _)
        rw [hd,List.count_cons,q,beq_self_eq_true,if_pos rfl]
        refine this.trans ?_
        simp; lia
      · rw [if_neg (fun h=>q (hs.mp h.2))]
        have:=occ_one x c m (k+1) st (by lia) (by lia) (by lia)
        rw [hd,List.count_cons,if_neg (by simpa using q)]
        exact this
    · rw [if_neg (fun h=>by have:k+1≤x.length:=h.1.2; lia)]
      have:=occ_one x c m (k+1) st (by lia) (by lia) (by lia)
      have e1:x.cps.toList.drop k=[]:=List.drop_eq_nil_of_le (by lia)
      have e2:x.cps.toList.drop (k+1)=[]:=List.drop_eq_nil_of_le (by lia)
      rw [e2] at this
      rw [e1]
      exact this
theorem occ_nl (x:Str):(Int.ofNat (Builtin.Str.occurrences x (S [10]) 0 x.length (x.length+1)).length)=nlc x.cps.toList:=by
  rw [occ_eq,Array.length_toList]
  have:=occ_one x 10 (x.length+1) 0 (#[],0) (by lia) (Nat.le_refl _) (Nat.le_refl _)
  show ((_:Nat):Int)=((_:Nat):Int)
  rw [show S [10]=(⟨#[10]⟩:Str) from rfl,Nat.sub_zero,this]
  simp
end Mine
end
section
open PySem PySem.W PySem.W.X PySem.Calls PyProof.Rows PySem.SeqAt
namespace Mine
variable {w:World} {aS:Addr} {xs:List Value} {eS:Nat} {p4:Pos} {c:GX} {Q:Result ⊕ Code→Shared→Prop}
theorem ints_at : ∀ {l l' : List Value} {ns:List Int},IntsAre l ns→IntsAre l' ns→l.length=l'.length ∧ ∀ (A:Around) (s:Shared) (j:Nat) (h1:j<l.length) (h2:j<l'.length),EqAt A s l[j] l'[j] true
  | _,_,_, .nil, .nil=>⟨rfl,fun _ _ j h1 _=>absurd h1 (Nat.not_lt_zero j)⟩
  | _,_,_, .cons n t h, .cons _ t' h' => by
    obtain ⟨e,f⟩:=ints_at h h'
    refine ⟨congrArg Nat.succ e,fun A s j h1 h2 => ?_⟩
    cases j with
    | zero =>
      have:=EqAt.int_int (A:=A) (s:=s) n t n t'
      rw [beq_self_eq_true] at this
      exact this
    | succ j=>exact f A s j (Nat.lt_of_succ_lt_succ h1) (Nat.lt_of_succ_lt_succ h2)
theorem ints_map : ∀ (ys:List (Int × Nat)),IntsAre (ys.map fun y=>Value.int y.1 y.2) (ys.map (·.1))
  | [] => .nil
  | y :: ys => .cons y.1 y.2 (ints_map ys)
theorem ints_24 {vs:List Value} {f:List Nat × List (List Nat)→Int} (h : ∃ ys:List (Int × Nat),vs=ys.map (fun y=>Value.int y.1 y.2)∧ys.map (·.1)=ringTab.map f):IntsAre vs (ringTab.map f)∧vs.length<64:=by
  obtain ⟨ys,h1,h2⟩:=h
  have h3:=congrArg List.length h2
  rw [List.length_map,List.length_map] at h3
  rw [h1,List.length_map,h3,← h2]
  exact ⟨ints_map ys,by decide⟩
theorem all_true (n:Nat):(List.range n).all (fun _=>true)=true:=by simp
theorem str_at (A:Around) (s:Shared) {a b:Str} (t u:Nat) (h:a=b):EqAt A s (.str a t) (.str b u) true:=by
  subst h
  have:=(eqGives_str a a t u).at A s
  rwa [show (a == a)=true from beq_self_eq_true a] at this
theorem int_at (A:Around) (s:Shared) {a b:Int} (t u:Nat) (h:a=b):EqAt A s (.int a t) (.int b u) true:=by
  subst h
  have:=EqAt.int_int (A:=A) (s:=s) a t a u
  rwa [beq_self_eq_true] at this
theorem tup2_at {A:Around} {s:Shared} {l b:Addr} {x0 x1 y0 y1:Value} {n m:Nat} (hne:l≠b) (hl:s.heap.get? l=some (tupO [x0,x1] n)) (hb:s.heap.get? b=some (tupO [y0,y1] m)) (hu:A.units<cLine)
    (h0:EqAt A.in1 s x0 y0 true) (h1:EqAt A.in1 s x1 y1 true):EqAt A s (.ref l) (.ref b) true:=
  EqAt.of_refs hne (RcAt.tuples (items:= #[x0,x1]) (items2:= #[y0,y1]) (e:=fun _=>true) ⟨_,hl,rfl,n,rfl⟩ ⟨_,hb,rfl,m,rfl⟩ hu (fun j h1' h2' => by
    match j,h1',h2' with
    | 0,_,_=>exact h0
    | 1,_,_=>exact h1
    | j+2,h,_=>exact absurd h (by simp)))
theorem law_room (base:Nat) (p p4:Pos):unitsOf (mStk base p p4)+5<cLine:=by
  have:unitsOf (mStk base p p4)=unitsOf (mStk 0 default default):=by kernel_rfl
  rw [this]
  decide +kernel
theorem room_of {A:Around} {stk:Stk} {base:Nat} {p p4:Pos} (hu:A.units≤unitsOf stk+5) (h:stk=mStk base p p4):A.units<cLine:=Nat.lt_of_le_of_lt (h ▸ hu) (law_room base p p4)
theorem ne_false {s:Shared} {p:Pos} {O:List Frame} {stk:Stk} (hO:AtCall p O stk) {l b:Addr} {xs ys:List Value} {n m:Nat} (hl:s.heap.get? l=some (listO xs n)) (hb:s.heap.get? b=some (listO ys m)) (hsz:xs.length=ys.length)
    (he : ∀ (A:Around),A.units≤unitsOf stk+5 → ∀ (j:Nat) (h1:j<xs.length) (h2:j<ys.length),EqAt A s xs[j] ys[j] true) :
    ∃ s',EndsAt (model pw w) s (.call (.builtin "list.__ne__") ⟨[.ref l, .ref b],[]⟩) p O s' (.ok (.ret (.bool false)))∧Kept s s' []:=by
  obtain ⟨s',hE,hK⟩:=call_neU (w:=w) hO hl hb hsz (fun _=>true) (fun A j h1 h2 hu=>he A hu j h1 h2)
  rw [all_true] at hE
  exact ⟨s',hE,hK⟩
inductive Eqs (A:Around) (s:Shared):List Value→List Value→Prop
  | nil:Eqs A s [] []
  | cons {x y:Value} {l m:List Value} (h:EqAt A s x y true) (t:Eqs A s l m):Eqs A s (x :: l) (y :: m)
theorem Eqs.at {A:Around} {s:Shared} : ∀ {l m:List Value},Eqs A s l m → ∀ (j:Nat) (h1:j<l.length) (h2:j<m.length),EqAt A s l[j] m[j] true
  | _,_, .nil,j,h1,_=>absurd h1 (Nat.not_lt_zero j)
  | _,_, .cons h t,0,_,_=>h
  | _,_, .cons h t,j+1,h1,h2=>t.at j (Nat.lt_of_succ_lt_succ h1) (Nat.lt_of_succ_lt_succ h2)
theorem ords_mem (e:ME) : ∀ j,j<24→e.ord j∈e.ords
  | 0,_=>List.mem_of_getElem? (i:=0) rfl
  | 1,_=>List.mem_of_getElem? (i:=1) rfl
  | 2,_=>List.mem_of_getElem? (i:=2) rfl
  | 3,_=>List.mem_of_getElem? (i:=3) rfl
  | 4,_=>List.mem_of_getElem? (i:=4) rfl
  | 5,_=>List.mem_of_getElem? (i:=5) rfl
  | 6,_=>List.mem_of_getElem? (i:=6) rfl
  | 7,_=>List.mem_of_getElem? (i:=7) rfl
  | 8,_=>List.mem_of_getElem? (i:=8) rfl
  | 9,_=>List.mem_of_getElem? (i:=9) rfl
  | 10,_=>List.mem_of_getElem? (i:=10) rfl
  | 11,_=>List.mem_of_getElem? (i:=11) rfl
  | 12,_=>List.mem_of_getElem? (i:=12) rfl
  | 13,_=>List.mem_of_getElem? (i:=13) rfl
  | 14,_=>List.mem_of_getElem? (i:=14) rfl
  | 15,_=>List.mem_of_getElem? (i:=15) rfl
  | 16,_=>List.mem_of_getElem? (i:=16) rfl
  | 17,_=>List.mem_of_getElem? (i:=17) rfl
  | 18,_=>List.mem_of_getElem? (i:=18) rfl
  | 19,_=>List.mem_of_getElem? (i:=19) rfl
  | 20,_=>List.mem_of_getElem? (i:=20) rfl
  | 21,_=>List.mem_of_getElem? (i:=21) rfl
  | 22,_=>List.mem_of_getElem? (i:=22) rfl
  | 23,_=>List.mem_of_getElem? (i:=23) rfl
  | n+24,h=>absurd h (by lia)
noncomputable def ringAt (j:Nat):List Nat × List (List Nat):=ringTab.getD j ([],[])
theorem ring_mem : ∀ j<24,ringAt j∈ringTab:=by decide +kernel
theorem ring_ord : ∀ j<24,(ringAt j).1=ordAt j:=by decide +kernel
theorem ring_map {α : Type} (f:List Nat × List (List Nat) → α):((List.range' 0 24).map fun j=>f (ringAt j))=ringTab.map f:=rfl
theorem perm_len : ∀ j<24,(ordAt j).length=4 ∧ ∀ k<4,(ordAt j).getD k 0<4:=by decide +kernel
theorem len4 {α : Type} {l:List α} (h:l.length=4) : ∃ a b c d,l=[a,b,c,d]:=by
  match l,h with
  | [a,b,c,d],_=>exact ⟨a,b,c,d,rfl⟩
noncomputable def tnOf (k:Nat):Nat→Nat | 0=>k+1 | 1=>k+2 | 2=>k+3 | _=>k+4
noncomputable def ME.tpA (e:ME) (c:GX) (i:Nat):TP:=⟨i,ordTok e.tq i,S [nmOf i],tnOf c.tk i,e.pv i,e.tp i⟩
noncomputable def ME.tp' (e:ME) (c:GX) (j k:Nat):TP:=e.tpA c ((ordAt j).getD k 0)
theorem left_run (e:ME) (c:GX) {j:Nat} (hj:j<24) (hpv:e.pv=e.x):leftV (e.tp' c j)=runL e.x (ringAt j).1 0:=by
  rw [ring_ord j hj]
  unfold leftV ME.tp' ME.tpA
  obtain ⟨i0,i1,i2,i3,h⟩:=len4 (perm_len j hj).1
  rw [h,hpv]
  show max 0 (max 0 (max 0 (max 0 (e.x i0)+e.x i1)+e.x i2)+e.x i3)=max 0 (max 0 (max 0 (max 0 (0+e.x i0)+e.x i1)+e.x i2)+e.x i3)
  rw [Int.zero_add]
theorem tp_nm (e:ME) (c:GX) : ∀ i,i<4→([.str ⟨#[34]⟩ (c.tk+1), .str ⟨#[92]⟩ (c.tk+2), .str ⟨#[32]⟩ (c.tk+3), .str ⟨#[10]⟩ (c.tk+4)]:List Value)[i]? = some (.str (e.tpA c i).nm (e.tpA c i).tn)
  | 0,_=>rfl
  | 1,_=>rfl
  | 2,_=>rfl
  | 3,_=>rfl
  | n+4,h=>absurd h (by lia)
theorem tp_td (e:ME) (c:GX) : ∀ i,i<4→([.int (e.pv 0) (e.tp 0), .int (e.pv 1) (e.tp 1), .int (e.pv 2) (e.tp 2), .int (e.pv 3) (e.tp 3)]:List Value)[i]? = some (.int (e.tpA c i).x (e.tpA c i).tx)
  | 0,_=>rfl
  | 1,_=>rfl
  | 2,_=>rfl
  | 3,_=>rfl
  | n+4,h=>absurd h (by lia)
theorem get_map (tq:Nat) {l:List Nat} {k:Nat} (h:k<l.length):(l.map fun i=>Value.int (Int.ofNat i) (ordTok tq i))[k]? = some (.int (Int.ofNat (l.getD k 0)) (ordTok tq (l.getD k 0))):=by
  rw [List.getElem?_map,List.getElem?_eq_getElem h]
  simp [List.getD,List.getElem?_eq_getElem h]
noncomputable def offAt (j:Nat):Nat:=(permOffs.getD j (0,[])).1
theorem offs_nd:(101 :: permOffs.map (·.1)).Nodup:=by decide +kernel
theorem nat1000 {x:Int} (h : -30≤x∧x≤30):x.natAbs≤1000:=by omega
theorem str_ext {a b:Str} (h:a.cps.toList=b.cps.toList):a=b:=by
  obtain ⟨a⟩:=a
  obtain ⟨b⟩:=b
  exact congrArg Str.mk (Array.toList_inj.mp h)
theorem layT_congr (q:Nat→Bool) {W W' : Nat→List Nat} : ∀ n,(∀ k<n,W k=W' k)→layT q W n=layT q W' n
  | 0,_=>rfl
  | n+1,h=>by
    show layT q W n++(whT (shutAt q n) n++wdT (q n) (W n))=layT q W' n++(whT (shutAt q n) n++wdT (q n) (W' n))
    rw [layT_congr q n (fun k hk=>h k (by lia)),h n (by lia)]
noncomputable def ninth (ys:List (Str × Nat)) (i:Nat):Str × Nat:=ys.getD i (S [],0)
theorem nine_of {ys:List (Str × Nat)} {x:Nat→Int} (h:ys.map (fun y=>y.1.cps.toList)=[wordL x 0,wordL x 1,wordL x 2,wordL x 3,wordL x 4,wordL x 5,wordL x 6,wordL x 7,[]]) :
    ys=(List.range 9).map fun i=>(wordE x i,(ninth ys i).2):=by
  have hl:ys.length=9:=by have:=congrArg List.length h; rw [List.length_map] at this; exact this
  refine List.ext_getElem? fun i => ?_
  by_cases hi:i<9
  · have h2:=congrArg (·[i]?) h
    simp only [List.getElem?_map,List.getElem?_eq_getElem (show i<ys.length by omega),Option.map_some] at h2
    rw [List.getElem?_map,List.getElem?_range hi,List.getElem?_eq_getElem (show i<ys.length by omega),Option.map_some]
    have h3 : ∀ i<9,([wordL x 0,wordL x 1,wordL x 2,wordL x 3,wordL x 4,wordL x 5,wordL x 6,wordL x 7,[]]:List (List Nat))[i]? = some (wordE x i).cps.toList:=fun i hi=>by
      match i,hi with
      | 8,_=>rfl
      | 0,_=>exact congrArg some (wordS_list x 0 (by decide)).symm
      | 1,_=>exact congrArg some (wordS_list x 1 (by decide)).symm
      | 2,_=>exact congrArg some (wordS_list x 2 (by decide)).symm
      | 3,_=>exact congrArg some (wordS_list x 3 (by decide)).symm
      | 4,_=>exact congrArg some (wordS_list x 4 (by decide)).symm
      | 5,_=>exact congrArg some (wordS_list x 5 (by decide)).symm
      | 6,_=>exact congrArg some (wordS_list x 6 (by decide)).symm
      | 7,_=>exact congrArg some (wordS_list x 7 (by decide)).symm
    rw [h3 i hi] at h2
    have h4:ys[i].1=wordE x i:=str_ext (Option.some.inj h2)
    have h5:(ninth ys i).2=ys[i].2:=by simp [ninth,List.getD,List.getElem?_eq_getElem (show i<ys.length by omega)]
    rw [h5,← h4]
  · rw [List.getElem?_eq_none (by omega),List.getElem?_eq_none (by simp; omega)]
theorem st22 (H:MT w aS xs eS p4 c Q) {e:ME} (M:MF w c e 22):OutOk (mV w p4 c) Q (mo22 w aS xs eS p4 c e):=
  ok_ret (main22 w aS xs eS p4 c e) no_cond (fun s base off tk gb P hb=>H.hq e M s base off tk gb P hb)
theorem st21 (H:MT w aS xs eS p4 c Q) {e:ME} (M:MF w c e 21):OutOk (mV w p4 c) Q (mo21 w aS xs eS p4 c e):=by
  obtain ⟨hcut,hstk⟩:=main21 w aS xs eS p4 c e
  refine ok_cutR hcut no_cond (fun s p O R hO => ?_)
  obtain ⟨n1,i1,q1,o1⟩:=M.f18 (by decide)
  obtain ⟨n2,i2,q2,o2⟩:=M.f20 (by decide)
  obtain rfl:n1=n2:=sorted_eq (q1.trans ((spitzer e.x).trans q2.symm)) o1 o2
  obtain ⟨hl,hq⟩:=ints_at i1 i2
  obtain ⟨s',hE,hK⟩:=call_eq (p:=p) hO (R.at' _ (.head _)) (R.at' _ (.tail _ (.head _))) hl (fun _=>true) (fun A j h1 h2=>hq A s j h1 h2)
  rw [all_true] at hE
  let e1:ME:={e with b:=put e.b 21 s'.heap.objs.size,k:=put e.k 21 s'.toks,g:=put e.g 21 s'.gens.size}
  exact ⟨e1.e21 w.params,s',hE,eff0 hK,st22 H (e:=e1) ⟨(fun _=>M.f0 (by decide)),(fun _=>M.f1 (by decide)),(fun _=>M.f2 (by decide)),(fun _=>M.f3 (by decide)),(fun _=>M.f4 (by decide)),(fun _=>M.f6 (by decide)),(fun _=>M.f7 (by decide)),(fun _=>M.f16 (by decide)),(fun _=>M.f18 (by decide)),(fun _=>M.f19 (by decide)),(fun _=>M.f20 (by decide))⟩⟩
theorem st20 (H:MT w aS xs eS p4 c Q) {e:ME} (M:MF w c e 20):OutOk (mV w p4 c) Q (mo20 w aS xs eS p4 c e):=by
  obtain ⟨hcut,hstk⟩:=main20 w aS xs eS p4 c e
  refine ok_cutR hcut no_cond (fun s p O R hO => ?_)
  obtain ⟨hi,hl⟩:=ints_24 (M.f19 (by decide))
  obtain ⟨s',a,vs',ns',m,hE,hK,hA',hlo,N1,N2,N3⟩:=call_sorted (p:=p) hO (R.at' _ (.head _)) hi hl
  let e1:ME:={e with b:=put e.b 20 s'.heap.objs.size,k:=put e.k 20 s'.toks,g:=put e.g 20 s'.gens.size,a20:=a,l20:=vs',n20:=m}
  have N : ∃ ns,IntsAre vs' ns∧ns.Perm (ringTab.map fun z=>ringVal z.2 e.x)∧ns.Pairwise (· ≤ ·):=⟨ns',N1,N2,N3⟩
  exact ⟨e1.e20 w.params,s',hE,eff_new hK hA' (lo_one hlo) (nd_one a),st21 H (e:=e1) ⟨(fun _=>M.f0 (by decide)),(fun _=>M.f1 (by decide)),(fun _=>M.f2 (by decide)),(fun _=>M.f3 (by decide)),(fun _=>M.f4 (by decide)),(fun _=>M.f6 (by decide)),(fun _=>M.f7 (by decide)),(fun _=>M.f16 (by decide)),(fun _=>M.f18 (by decide)),(fun _=>M.f19 (by decide)),(fun _=>N)⟩⟩
theorem st19 (H:MT w aS xs eS p4 c Q) {e:ME} (M:MF w c e 19):OutOk (mV w p4 c) Q (mo19 w aS xs eS p4 c e):=by
  obtain ⟨hcut,hstk⟩:=main19 w aS xs eS p4 c e
  refine ok_cutR hcut no_cond (fun s p O R hO => ?_)
  let R0:RP:={aO:=0,aN:=c.base+9,aT:=e.b 9+1,aW:=e.aW,aD:=e.aWD,tq:=e.tq,t0:=c.tk+1,t1:=c.tk+2,t2:=c.tk+3,t3:=c.tk+4,eN:=0,x:=e.pv,u:=e.tp,eT:=4,k0:=e.kW,k1:=210,eD:=1}
  obtain ⟨s',t',eW',o,ys,hE,hK,hA',hx,hv⟩:=ringC_ok (C:=⟨e.b 18,e.b 18+1,e.b 18+2,c.base⟩) (P:=R0) (p:=p) (x:=⟨lawD.b,lawEnv c.base,(mo19 w aS xs eS p4 c e).sp2,p4⟩) (t:=⟨[],0,0, .none,0⟩) (hO.outIs hstk) ring_mem rfl (fun j hj=>by
    have:=R.one (ords_mem e j hj)
    rw [ring_ord j hj]
    exact this)
  rw [ring_map (fun z=>ringVal z.2 R0.x)] at hv
  let e1:ME:={e with b:=put e.b 19 s'.heap.objs.size,k:=put e.k 19 s'.toks,g:=put e.g 19 s'.gens.size,oI19:=o,rs:=t'.xs,n19:=t'.n,z19:=t'.za,zv19:=t'.zv,zn19:=t'.zn,eW19:=eW' }
  have N : ∃ ys:List (Int × Nat),t'.xs=ys.map (fun y=>Value.int y.1 y.2)∧ys.map (·.1)=ringTab.map fun z=>ringVal z.2 e.x:=⟨ys,hx,by rw [hv,← (M.f7 (by decide)).2]⟩
  exact ⟨e1.e19 w.params,s',hE,eff_upd (ix:=[128,129,130,125]) (hK.lessP (D:=[(c.base+8,cellO (.ref e.aW)),(c.base+1,cellO (.ref (c.base+9))),(c.base+5,cellO (.ref (e.b 9+1))),(e.aO,listO (orefs e.ao) e.nO),(c.base+9,e.nmsO c.tk),(e.b 9+1,e.told 4),(e.aWD,sizeO w.params 0 e.kW 210 1)])
    (R.at'.of [3,4,5,6,31,32,34] (by kernel_rfl)) (hA'.of [3,4,5,6,8,9,11] (by kernel_rfl)) [0,1,2,4,5,6,7,8,9,3,10] (by kernel_rfl)) (hA'.of [0,1,2,10] (by kernel_rfl)) (by decide) rfl,st20 H (e:=e1) ⟨(fun _=>M.f0 (by decide)),(fun _=>M.f1 (by decide)),(fun _=>M.f2 (by decide)),(fun _=>M.f3 (by decide)),(fun _=>M.f4 (by decide)),(fun _=>M.f6 (by decide)),(fun _=>M.f7 (by decide)),(fun _=>M.f16 (by decide)),(fun _=>M.f18 (by decide)),(fun _=>N),(fun h=>absurd h (by decide))⟩⟩
theorem st18 (H:MT w aS xs eS p4 c Q) {e:ME} (M:MF w c e 18):OutOk (mV w p4 c) Q (mo18 w aS xs eS p4 c e):=by
  obtain ⟨hcut,hstk⟩:=main18 w aS xs eS p4 c e
  refine ok_cutR hcut no_cond (fun s p O R hO => ?_)
  obtain ⟨hi,hl⟩:=ints_24 (M.f16 (by decide))
  obtain ⟨s',a,vs',ns',m,hE,hK,hA',hlo,N1,N2,N3⟩:=call_sorted (p:=p) hO (R.at' _ (.head _)) hi hl
  let e1:ME:={e with b:=put e.b 18 s'.heap.objs.size,k:=put e.k 18 s'.toks,g:=put e.g 18 s'.gens.size,a18:=a,l18:=vs',n18:=m}
  have N : ∃ ns,IntsAre vs' ns∧ns.Perm (ringTab.map fun z=>runL e.x z.1 0)∧ns.Pairwise (· ≤ ·):=⟨ns',N1,N2,N3⟩
  exact ⟨e1.e18 w.params,s',hE,eff_new hK hA' (lo_one hlo) (nd_one a),st19 H (e:=e1) ⟨(fun _=>M.f0 (by decide)),(fun _=>M.f1 (by decide)),(fun _=>M.f2 (by decide)),(fun _=>M.f3 (by decide)),(fun _=>M.f4 (by decide)),(fun _=>M.f6 (by decide)),(fun _=>M.f7 (by decide)),(fun _=>M.f16 (by decide)),(fun _=>N),(fun h=>absurd h (by decide)),(fun h=>absurd h (by decide))⟩⟩
theorem st17 (H:MT w aS xs eS p4 c Q) {e:ME} (M:MF w c e 17):OutOk (mV w p4 c) Q (mo17 w aS xs eS p4 c e):=by
  obtain ⟨hcut,hstk⟩:=main17 w aS xs eS p4 c e
  refine ok_cutR hcut no_cond (fun s p O R hO => ?_)
  obtain ⟨s',n,aD,kk,hE,hQ⟩:=cls_law (p:=p) (hO.outIs hstk) R.old R.bare
  let e1:ME:={e with b:=put e.b 17 s'.heap.objs.size,k:=put e.k 17 s'.toks,g:=put e.g 17 s'.gens.size,aWn:=n,aWD:=aD,kW:=kk}
  exact ⟨e1.e17 w.params,s',hE,eff_new hQ.kept hQ.at' (lo_two hQ.lo.1 hQ.lo.2) (nd_two hQ.ne),st18 H (e:=e1) ⟨(fun _=>M.f0 (by decide)),(fun _=>M.f1 (by decide)),(fun _=>M.f2 (by decide)),(fun _=>M.f3 (by decide)),(fun _=>M.f4 (by decide)),(fun _=>M.f6 (by decide)),(fun _=>M.f7 (by decide)),(fun _=>M.f16 (by decide)),(fun h=>absurd h (by decide)),(fun h=>absurd h (by decide)),(fun h=>absurd h (by decide))⟩⟩
theorem st16 (H:MT w aS xs eS p4 c Q) {e:ME} (M:MF w c e 16):OutOk (mV w p4 c) Q (mo16 w aS xs eS p4 c e):=by
  obtain ⟨hcut,hstk⟩:=main16 w aS xs eS p4 c e
  refine ok_cutR hcut no_cond (fun s p O R hO => ?_)
  have hpv:=(M.f7 (by decide)).2
  let P0:LP:={aI:=0,aF:=0,nP:=e.aPn,aD:=e.aPD,aO:=0,aN:=c.base+9,aT:=e.b 9+1,q:=[],tq:=e.tq,t0:=c.tk+1,t1:=c.tk+2,t2:=c.tk+3,t3:=c.tk+4,eN:=0,x:=e.pv,u:=e.tp,eT:=4,z:=9,kz:=e.kP,tz:=e.k 10,eD:=1,f:=fun _=>0,sz:=9,ts:=0,lb:=0}
  have T : ∀ j<24,∀ (z:Int) (tz:Nat) (t' : LS),t'.j<4→TPok {P0.at e.ao ordAt j with z:=z,tz:=tz} t' (e.tp' c j t'.j):=fun j hj z tz t' ht=>by
    obtain ⟨h4,hlt⟩:=perm_len j hj
    have hp:=hlt t'.j ht
    have hx : -30≤e.pv ((ordAt j).getD t'.j 0)∧e.pv ((ordAt j).getD t'.j 0)≤30:=by rw [hpv]; exact M.f0 (by decide) _
    exact ⟨get_map e.tq (l:=ordAt j) (by rw [h4]; exact ht),tp_nm e c _ hp,tp_td e c _ hp,⟨nmOf ((ordAt j).getD t'.j 0),rfl⟩,Nat.lt_trans hp (by decide),hx.1,hx.2⟩
  obtain ⟨s',t',eP',tz',ys,hE,hK,hA',hx,hv⟩:=leftC_ok (C:=⟨e.b 15+1,e.b 15+2,e.b 15+3,c.base⟩) (P:=P0) (p:=p) (x:=⟨lawD.b,lawEnv c.base,(mo16 w aS xs eS p4 c e).sp2,p4⟩) (t:=⟨[],0,0, .none,0⟩) (aOs:=e.aO) (eO:=e.nO) (ac:=e.ac6) (tz:=e.k 10) (eP:=e.eP13) (hO.outIs hstk) (fun j hj=>orefs_item e.ao hj) (fun j hj=>len4 (perm_len j hj).1) T rfl (fun j hj=>R.one (ords_mem e j hj))
  let e1:ME:={e with b:=put e.b 16 s'.heap.objs.size,k:=put e.k 16 s'.toks,g:=put e.g 16 s'.gens.size,oI16:=ritO 24 0,ls:=t'.xs,n16:=t'.n,z16:=t'.za,zv16:=t'.zv,zn16:=t'.zn,eP16:=eP',tz16:=tz' }
  have N : ∃ ys:List (Int × Nat),t'.xs=ys.map (fun y=>Value.int y.1 y.2)∧ys.map (·.1)=ringTab.map fun z=>runL e.x z.1 0:=⟨ys,hx,by
    rw [hv,← ring_map (fun z=>runL e.x z.1 0)]
    exact List.map_congr_left fun j hj=>left_run e c (by have:=List.mem_range'_1.mp hj; lia) hpv⟩
  exact ⟨e1.e16 w.params,s',hE,eff_upd (ix:=[122,123,124,114,115]) (hK.lessP (D:=[(c.base+6,cellO (.ref e.aO)),(c.base+1,cellO (.ref (c.base+9))),(c.base+5,cellO (.ref (e.b 9+1))),(c.base+7,cellO (.ref e.aP)),(e.aO,listO (orefs e.ao) e.nO),(c.base+9,e.nmsO c.tk),(e.b 9+1,e.told 4),tab63 e.ac6])
    (R.at'.of [3,4,5,6,7,34,35,36] (by kernel_rfl)) (hA'.of [3,4,5,6,7,11,12,13] (by kernel_rfl)) [0,1,2,5,6,7,8,9,3,4,10,11,12] (by kernel_rfl)) (hA'.of [0,1,2,8,9] (by kernel_rfl)) (by decide) rfl,st17 H (e:=e1) ⟨(fun _=>M.f0 (by decide)),(fun _=>M.f1 (by decide)),(fun _=>M.f2 (by decide)),(fun _=>M.f3 (by decide)),(fun _=>M.f4 (by decide)),(fun _=>M.f6 (by decide)),(fun _=>M.f7 (by decide)),(fun _=>N),(fun h=>absurd h (by decide)),(fun h=>absurd h (by decide)),(fun h=>absurd h (by decide))⟩⟩
theorem st15 (H:MT w aS xs eS p4 c Q) {e:ME} (M:MF w c e 15):OutOk (mV w p4 c) Q (mo15 w aS xs eS p4 c e):=by
  obtain ⟨hcut,hstk⟩:=main15 w aS xs eS p4 c e
  refine ok_cutR hcut no_cond (fun s p O R hO => ?_)
  obtain ⟨s',hE,hK⟩:=ne_false (p:=p) hO (R.at' _ (.head _)) (R.at' _ (.tail _ (.head _))) rfl (fun A hu=>Eqs.at (.cons (int_at A s _ _ rfl) (.cons
    (tup2_at (R.ne 2 3 rfl rfl (by decide)) (R.at' _ (.tail _ (.tail _ (.head _)))) (R.at' _ (.tail _ (.tail _ (.tail _ (.head _))))) (room_of hu hstk) (str_at _ s _ _ rfl) (str_at _ s _ _ rfl)) (.cons (int_at A s _ _ rfl) .nil))))
  let e1:ME:={e with b:=put e.b 15 s'.heap.objs.size,k:=put e.k 15 s'.toks,g:=put e.g 15 s'.gens.size}
  exact ⟨e1.e15 w.params,s',hE,eff0 hK,st16 H (e:=e1) ⟨(fun _=>M.f0 (by decide)),(fun _=>M.f1 (by decide)),(fun _=>M.f2 (by decide)),(fun _=>M.f3 (by decide)),(fun _=>M.f4 (by decide)),(fun _=>M.f6 (by decide)),(fun _=>M.f7 (by decide)),(fun h=>absurd h (by decide)),(fun h=>absurd h (by decide)),(fun h=>absurd h (by decide)),(fun h=>absurd h (by decide))⟩⟩
theorem st14 (H:MT w aS xs eS p4 c Q) {e:ME} (M:MF w c e 14):OutOk (mV w p4 c) Q (mo14 w aS xs eS p4 c e):=by
  obtain ⟨hcut,hstk⟩:=main14 w aS xs eS p4 c e
  refine ok_cutR hcut no_cond (fun s p O R hO => ?_)
  let a:AP:=⟨e.aPn,e.aPD,[],e.eP13,9,e.kP,e.k 10,1⟩
  obtain ⟨r,s',hE,hK,t,rfl⟩:=pc_of (a:=a) (p:=p) R (hO.outIs hstk) (pc_law w a lawD.b (lawEnv c.base) _ p4 (ghO s (a.led w.params)) s.heap.objs.size s.toks s.gens.size p)
  let e1:ME:={e with b:=put e.b 14 s'.heap.objs.size,k:=put e.k 14 s'.toks,g:=put e.g 14 s'.gens.size,t14:=t}
  exact ⟨e1.e14 w.params,s',hE,eff0 hK,st15 H (e:=e1) ⟨(fun _=>M.f0 (by decide)),(fun _=>M.f1 (by decide)),(fun _=>M.f2 (by decide)),(fun _=>M.f3 (by decide)),(fun _=>M.f4 (by decide)),(fun _=>M.f6 (by decide)),(fun _=>M.f7 (by decide)),(fun h=>absurd h (by decide)),(fun h=>absurd h (by decide)),(fun h=>absurd h (by decide)),(fun h=>absurd h (by decide))⟩⟩
theorem st13 (H:MT w aS xs eS p4 c Q) {e:ME} (M:MF w c e 13):OutOk (mV w p4 c) Q (mo13 w aS xs eS p4 c e):=by
  obtain ⟨hcut,hstk⟩:=main13 w aS xs eS p4 c e
  refine ok_cutR hcut no_cond (fun s p O R hO => ?_)
  let a:AP:=⟨e.aPn,e.aPD,[.ref (e.b 11+1)],(mo13 w aS xs eS p4 c e).ep 0,9,e.kP,e.k 10,1⟩
  obtain ⟨s',hE,hK,hA'⟩:=popL_ok (a:=a) (ys:=[]) (pa:=e.b 11+1) (p:=p) (c:=⟨lawD.b,lawEnv c.base,(mo13 w aS xs eS p4 c e).sp2,p4⟩) R (hO.outIs hstk) rfl (show 1≤1000 by decide)
  let e1:ME:={e with b:=put e.b 13 s'.heap.objs.size,k:=put e.k 13 s'.toks,g:=put e.g 13 s'.gens.size,eP13:=(mo13 w aS xs eS p4 c e).ep 0+1}
  exact ⟨e1.e13 w.params,s',hE,eff_upd (ix:=[114]) (hK.lessP (D:=[(e.aPD,sizeO w.params 9 e.kP (e.k 10) 1)]) (R.at'.of [1] (by kernel_rfl)) (hA'.of [1] (by kernel_rfl)) [0,1] (by kernel_rfl)) (hA'.of [0] (by kernel_rfl)) (by decide) rfl,st14 H (e:=e1) ⟨(fun _=>M.f0 (by decide)),(fun _=>M.f1 (by decide)),(fun _=>M.f2 (by decide)),(fun _=>M.f3 (by decide)),(fun _=>M.f4 (by decide)),(fun _=>M.f6 (by decide)),(fun _=>M.f7 (by decide)),(fun h=>absurd h (by decide)),(fun h=>absurd h (by decide)),(fun h=>absurd h (by decide)),(fun h=>absurd h (by decide))⟩⟩
theorem st12 (H:MT w aS xs eS p4 c Q) {e:ME} (M:MF w c e 12):OutOk (mV w p4 c) Q (mo12 w aS xs eS p4 c e):=by
  obtain ⟨hcut,hstk⟩:=main12 w aS xs eS p4 c e
  refine ok_cutR hcut no_cond (fun s p O R hO => ?_)
  let a:AP:=⟨e.aPn,e.aPD,[.ref (e.b 11+1)],(mo12 w aS xs eS p4 c e).ep 0,9,e.kP,e.k 10,1⟩
  obtain ⟨r,s',hE,hK,t,rfl⟩:=pc_of (a:=a) (p:=p) R (hO.outIs hstk) (pc_law w a lawD.b (lawEnv c.base) _ p4 (ghO s (a.led w.params)) s.heap.objs.size s.toks s.gens.size p)
  let e1:ME:={e with b:=put e.b 12 s'.heap.objs.size,k:=put e.k 12 s'.toks,g:=put e.g 12 s'.gens.size,t12:=t}
  exact ⟨e1.e12 w.params,s',hE,eff0 hK,st13 H (e:=e1) ⟨(fun _=>M.f0 (by decide)),(fun _=>M.f1 (by decide)),(fun _=>M.f2 (by decide)),(fun _=>M.f3 (by decide)),(fun _=>M.f4 (by decide)),(fun _=>M.f6 (by decide)),(fun _=>M.f7 (by decide)),(fun h=>absurd h (by decide)),(fun h=>absurd h (by decide)),(fun h=>absurd h (by decide)),(fun h=>absurd h (by decide))⟩⟩
theorem st11 (H:MT w aS xs eS p4 c Q) {e:ME} (M:MF w c e 11):OutOk (mV w p4 c) Q (mo11 w aS xs eS p4 c e):=by
  obtain ⟨hcut,hstk⟩:=main11 w aS xs eS p4 c e
  refine ok_cutR hcut no_cond (fun s p O R hO => ?_)
  obtain ⟨s',n,aD,kk,hE,hQ⟩:=cls_nine (p:=p) (t9:=e.k 10) (hO.outIs hstk) R.old R.bare
  let e1:ME:={e with b:=put e.b 11 s'.heap.objs.size,k:=put e.k 11 s'.toks,g:=put e.g 11 s'.gens.size,aPn:=n,aPD:=aD,kP:=kk}
  exact ⟨e1.e11 w.params,s',hE,eff_new hQ.kept hQ.at' (lo_two hQ.lo.1 hQ.lo.2) (nd_two hQ.ne),st12 H (e:=e1) ⟨(fun _=>M.f0 (by decide)),(fun _=>M.f1 (by decide)),(fun _=>M.f2 (by decide)),(fun _=>M.f3 (by decide)),(fun _=>M.f4 (by decide)),(fun _=>M.f6 (by decide)),(fun _=>M.f7 (by decide)),(fun h=>absurd h (by decide)),(fun h=>absurd h (by decide)),(fun h=>absurd h (by decide)),(fun h=>absurd h (by decide))⟩⟩
theorem st10 (H:MT w aS xs eS p4 c Q) {e:ME} (M:MF w c e 10):OutOk (mV w p4 c) Q (mo10 w aS xs eS p4 c e):=by
  obtain ⟨hcut,hstk⟩:=main10 w aS xs eS p4 c e
  refine ok_cutR hcut no_cond (fun s p O R hO => ?_)
  obtain ⟨s',hE,hK,hA'⟩:=orders_ok (p:=p) R.old R.bare (hO.outIs hstk)
  let e1:ME:={e with b:=put e.b 10 s'.heap.objs.size,k:=put e.k 10 s'.toks,g:=put e.g 10 s'.gens.size,aO:=s.heap.objs.size+101,ao:=fun j=>s.heap.objs.size+offAt j,tq:=s.toks,nO:=24}
  refine ⟨e1.e10 w.params,s',hE,eff_new hK (show AllAt s' ((e1.aO,listO (orefs e1.ao) e1.nO) :: e1.ords) from hA') (fun a ha => ?_) ?_,st11 H (e:=e1) ⟨(fun _=>M.f0 (by decide)),(fun _=>M.f1 (by decide)),(fun _=>M.f2 (by decide)),(fun _=>M.f3 (by decide)),(fun _=>M.f4 (by decide)),(fun _=>M.f6 (by decide)),(fun _=>M.f7 (by decide)),(fun h=>absurd h (by decide)),(fun h=>absurd h (by decide)),(fun h=>absurd h (by decide)),(fun h=>absurd h (by decide))⟩⟩
  · have ha:a∈(101 :: permOffs.map (·.1)).map (fun x=>s.heap.objs.size+x):=ha
    obtain ⟨x,_,rfl⟩:=List.mem_map.mp ha
    exact Nat.le_add_right _ _
  · show List.Nodup ((101 :: permOffs.map (·.1)).map (fun x=>s.heap.objs.size+x))
    exact List.Pairwise.map _ (fun a b h q=>h (Nat.add_left_cancel q)) offs_nd
theorem st9 (H:MT w aS xs eS p4 c Q) {e:ME} (M:MF w c e 9):OutOk (mV w p4 c) Q (mo9 w aS xs eS p4 c e):=by
  obtain ⟨hcut,hstk⟩:=main9 w aS xs eS p4 c e
  refine ok_cutR hcut (by
    have hbd:=M.f0 (by decide)
    rw [(M.f7 (by decide)).2]
    exact AllP.cons (nat1000 (hbd _)) (AllP.cons (nat1000 (hbd _)) (AllP.cons (nat1000 (hbd _)) (AllP.cons (nat1000 (hbd _)) (AllP.cons (nat1000 (hbd _)) (AllP.cons (nat1000 (hbd _)) (AllP.cons (nat1000 (hbd _)) (AllP.cons (nat1000 (hbd _)) .nil)))))))) (fun s p O R hO => ?_)
  have hpv:=(M.f7 (by decide)).2
  have h : ∀ i,Str.ofString (toString (e.pv i))=Str.ofString (toString (e.x i)):=fun i=>by rw [hpv]
  obtain ⟨s',hE,hK⟩:=ne_false (p:=p) hO (R.at' _ (.head _)) (R.at' _ (.tail _ (.head _))) rfl (fun A _=>Eqs.at (.cons (str_at A s _ _ (h 0)) (.cons (str_at A s _ _ (h 1)) (.cons (str_at A s _ _ (h 2)) (.cons (str_at A s _ _ (h 3)) .nil)))))
  let e1:ME:={e with b:=put e.b 9 s'.heap.objs.size,k:=put e.k 9 s'.toks,g:=put e.g 9 s'.gens.size}
  exact ⟨e1.e9 w.params,s',hE,eff0 hK,st10 H (e:=e1) ⟨(fun _=>M.f0 (by decide)),(fun _=>M.f1 (by decide)),(fun _=>M.f2 (by decide)),(fun _=>M.f3 (by decide)),(fun _=>M.f4 (by decide)),(fun _=>M.f6 (by decide)),(fun _=>M.f7 (by decide)),(fun h=>absurd h (by decide)),(fun h=>absurd h (by decide)),(fun h=>absurd h (by decide)),(fun h=>absurd h (by decide))⟩⟩
theorem st8 (H:MT w aS xs eS p4 c Q) {e:ME} (M:MF w c e 8):OutOk (mV w p4 c) Q (mo8 w aS xs eS p4 c e):=by
  obtain ⟨hcut,hstk⟩:=main8 w aS xs eS p4 c e
  refine ok_cutR hcut no_cond (fun s p O R hO => ?_)
  obtain ⟨hnm,hpv⟩:=M.f7 (by decide)
  obtain ⟨s',hE,hK⟩:=ne_false (p:=p) hO (R.at' _ (.head _)) (R.at' _ (.tail _ (.head _))) rfl (fun A hu=>Eqs.at (.cons (tup2_at (R.ne 2 6 rfl rfl (by decide)) (R.at' _ (.tail _ (.tail _ (.head _)))) (R.at' _ (.tail _ (.tail _ (.tail _ (.tail _ (.tail _ (.tail _ (.head _)))))))) (room_of hu hstk) (str_at _ s _ _ (congrFun hnm 0)) (int_at _ s _ _ (congrFun hpv 0))) (.cons (tup2_at (R.ne 3 7 rfl rfl (by decide)) (R.at' _ (.tail _ (.tail _ (.tail _ (.head _))))) (R.at' _ (.tail _ (.tail _ (.tail _ (.tail _ (.tail _ (.tail _ (.tail _ (.head _))))))))) (room_of hu hstk) (str_at _ s _ _ (congrFun hnm 1)) (int_at _ s _ _ (congrFun hpv 1))) (.cons (tup2_at (R.ne 4 8 rfl rfl (by decide)) (R.at' _ (.tail _ (.tail _ (.tail _ (.tail _ (.head _)))))) (R.at' _ (.tail _ (.tail _ (.tail _ (.tail _ (.tail _ (.tail _ (.tail _ (.tail _ (.head _)))))))))) (room_of hu hstk) (str_at _ s _ _ (congrFun hnm 2)) (int_at _ s _ _ (congrFun hpv 2))) (.cons (tup2_at (R.ne 5 9 rfl rfl (by decide)) (R.at' _ (.tail _ (.tail _ (.tail _ (.tail _ (.tail _ (.head _))))))) (R.at' _ (.tail _ (.tail _ (.tail _ (.tail _ (.tail _ (.tail _ (.tail _ (.tail _ (.tail _ (.head _))))))))))) (room_of hu hstk) (str_at _ s _ _ (congrFun hnm 3)) (int_at _ s _ _ (congrFun hpv 3))) .nil)))))
  let e1:ME:={e with b:=put e.b 8 s'.heap.objs.size,k:=put e.k 8 s'.toks,g:=put e.g 8 s'.gens.size}
  exact ⟨e1.e8 w.params,s',hE,eff0 hK,st9 H (e:=e1) ⟨(fun _=>M.f0 (by decide)),(fun _=>M.f1 (by decide)),(fun _=>M.f2 (by decide)),(fun _=>M.f3 (by decide)),(fun _=>M.f4 (by decide)),(fun _=>M.f6 (by decide)),(fun _=>M.f7 (by decide)),(fun h=>absurd h (by decide)),(fun h=>absurd h (by decide)),(fun h=>absurd h (by decide)),(fun h=>absurd h (by decide))⟩⟩
theorem st7 (H:MT w aS xs eS p4 c Q) {e:ME} (M:MF w c e 7):OutOk (mV w p4 c) Q (mo7 w aS xs eS p4 c e):=by
  obtain ⟨hcut,hstk⟩:=main7 w aS xs eS p4 c e
  refine ok_cutR hcut (AllP.cons (by
    rw [(M.f4 (by decide)).2,M.f6 (by decide)]
    simp) .nil) (fun s p O R hO => ?_)
  have hW:=M.f1 (by decide)
  have hbd:=M.f0 (by decide)
  obtain ⟨s',t',as,hE,hK,hA',hx,hn,hP,hnd,hlo⟩:=pair_ok (C:=⟨e.b 6+1,e.b 6+2,e.b 6+3,c.base⟩) (p:=p) (x:=⟨lawD.b,lawEnv c.base,(mo7 w aS xs eS p4 c e).sp2,p4⟩) (aW:=e.a1) (ws:=e.wsV) (eW:=e.eW) (hO.outIs hstk) (zs:=[⟨e.x 0,e.W 0,e.tW 0,e.tW 1⟩,⟨e.x 1,e.W 2,e.tW 2,e.tW 3⟩,⟨e.x 2,e.W 4,e.tW 4,e.tW 5⟩,⟨e.x 3,e.W 6,e.tW 6,e.tW 7⟩]) (t:=⟨[],0,0, .none,0⟩) (fun h=>nomatch h) (show 4≤50 by decide) rfl
    ⟨⟨by decide,hbd 0,(AllP.cons (by decide) (AllP.cons (by decide) (AllP.cons rfl .nil))),(AllP.cons (by decide) (AllP.cons (by decide) (AllP.cons (congrArg some (congrArg (Value.str · (e.tW 1)) (congrFun hW 1))) .nil)))⟩,⟨⟨by decide,hbd 1,(AllP.cons (by decide) (AllP.cons (by decide) (AllP.cons rfl .nil))),(AllP.cons (by decide) (AllP.cons (by decide) (AllP.cons (congrArg some (congrArg (Value.str · (e.tW 3)) (congrFun hW 3))) .nil)))⟩,⟨⟨by decide,hbd 2,(AllP.cons (by decide) (AllP.cons (by decide) (AllP.cons rfl .nil))),(AllP.cons (by decide) (AllP.cons (by decide) (AllP.cons (congrArg some (congrArg (Value.str · (e.tW 5)) (congrFun hW 5))) .nil)))⟩,⟨⟨by decide,hbd 3,(AllP.cons (by decide) (AllP.cons (by decide) (AllP.cons rfl .nil))),(AllP.cons (by decide) (AllP.cons (by decide) (AllP.cons (congrArg some (congrArg (Value.str · (e.tW 7)) (congrFun hW 7))) .nil)))⟩,trivial⟩⟩⟩⟩ R
  obtain ⟨a0,a1,a2,a3,rfl⟩:=len4 (hn.trans rfl)
  let e1:ME:={e with b:=put e.b 7 s'.heap.objs.size,k:=put e.k 7 s'.toks,g:=put e.g 7 s'.gens.size,ap:=fun i=>match i with | 0=>a0.1 | 1=>a1.1 | 2=>a2.1 | _=>a3.1,tp:=fun i=>match i with | 0=>a0.2 | 1=>a1.2 | 2=>a2.2 | _=>a3.2,tn:=fun i=>match i with | 0=>e.tW 0 | 1=>e.tW 2 | 2=>e.tW 4 | _=>e.tW 6,nm:=fun i=>S [nmOf i],pv:=e.x,n7:=t'.n,z7:=t'.za,zv7:=t'.zv,zn7:=t'.zn,oI7:=ritO 4 0}
  have hxs:listO t'.xs t'.n=e1.pairs:=by rw [hx]; rfl
  have hP:AllAt s' [e1.pair 0,e1.pair 1,e1.pair 2,e1.pair 3]:=by
    unfold pairsL at hP
    rw [hW] at hP
    exact hP
  have N:(fun i=>S [nmOf i])=(fun i=>S [nmOf i])∧e.x=e.x:=⟨rfl,rfl⟩
  refine ⟨e1.e7 w.params,s',hE,eff_of (ix:=[33,34,35]) (F:=[(e.b 6+1,ritO 4 0),(e.b 6+2,e1.pairs),(e.b 6+3,zO w.params k_place 1 t'.za t'.zv t'.zn)]) (news:=[e1.pair 0,e1.pair 1,e1.pair 2,e1.pair 3]) (hK.lessP (D:=[(c.base+3,cellO (.ref e.a1)),(e.a1,e.words)]) (R.at'.of [3,4] (by kernel_rfl)) (hA'.of [3,4] (by kernel_rfl)) [0,1,2,3,4] (by kernel_rfl)) (hxs ▸ hA'.of [0,1,2] (by kernel_rfl)) hP (fun x hx => ?_) hnd (by decide) rfl,st8 H (e:=e1) ⟨(fun _=>M.f0 (by decide)),(fun _=>M.f1 (by decide)),(fun _=>M.f2 (by decide)),(fun _=>M.f3 (by decide)),(fun _=>M.f4 (by decide)),(fun _=>M.f6 (by decide)),(fun _=>N),(fun h=>absurd h (by decide)),(fun h=>absurd h (by decide)),(fun h=>absurd h (by decide)),(fun h=>absurd h (by decide))⟩⟩
  have hx1:x.1∈[e1.pair 0,e1.pair 1,e1.pair 2,e1.pair 3].map (·.1):=List.mem_map.mpr ⟨x,hx,rfl⟩
  have hx2:x.1∈[a0,a1,a2,a3].map (·.1):=hx1
  obtain ⟨a,ha,e2⟩:=List.mem_map.mp hx2
  exact e2 ▸ hlo a ha
theorem st6 (H:MT w aS xs eS p4 c Q) {e:ME} (M:MF w c e 6):OutOk (mV w p4 c) Q (mo6 w aS xs eS p4 c e):=by
  obtain ⟨⟨tt,hcut⟩,hstk⟩:=main6 w aS xs eS p4 c e
  refine ok_cutR hcut no_cond (fun s p O R hO => ?_)
  obtain ⟨q,s',hE,hK⟩:=call_count (w:=w) (s:=s) (p:=p) hO (x:=e.T) (y:=S [10]) (t:=e.tT) (u:=tt)
  let e1:ME:={e with b:=put e.b 6 s'.heap.objs.size,k:=put e.k 6 s'.toks,g:=put e.g 6 s'.gens.size,cnt:=Int.ofNat (Builtin.Str.occurrences e.T (S [10]) 0 e.T.length (e.T.length+1)).length,tc:=q}
  have N:=occ_nl e.T
  exact ⟨e1.e6 w.params,s',hE,eff0 hK,st7 H (e:=e1) ⟨(fun _=>M.f0 (by decide)),(fun _=>M.f1 (by decide)),(fun _=>M.f2 (by decide)),(fun _=>M.f3 (by decide)),(fun _=>M.f4 (by decide)),(fun _=>N),(fun h=>absurd h (by decide)),(fun h=>absurd h (by decide)),(fun h=>absurd h (by decide)),(fun h=>absurd h (by decide)),(fun h=>absurd h (by decide))⟩⟩
theorem st5 (H:MT w aS xs eS p4 c Q) {e:ME} (M:MF w c e 5):OutOk (mV w p4 c) Q (mo5 w aS xs eS p4 c e):=by
  obtain ⟨⟨tt,hcut⟩,hstk⟩:=main5 w aS xs eS p4 c e
  refine ok_cutR hcut no_cond (fun s p O R hO => ?_)
  have hV:=(M.f4 (by decide)).1
  have hW:=M.f1 (by decide)
  have h : ∀ i,wordE e.x i=wordS e.x i→e.V i=e.W i:=fun i q=>(congrFun hV i).trans (q.trans (congrFun hW i).symm)
  obtain ⟨s',hE,hK⟩:=ne_false (p:=p) hO (R.at' _ (.head _)) (R.at' _ (.tail _ (.head _))) rfl (fun A _=>Eqs.at (.cons (str_at A s _ _ (h 0 rfl)) (.cons (str_at A s _ _ (h 1 rfl)) (.cons (str_at A s _ _ (h 2 rfl)) (.cons (str_at A s _ _ (h 3 rfl)) (.cons (str_at A s _ _ (h 4 rfl)) (.cons (str_at A s _ _ (h 5 rfl)) (.cons (str_at A s _ _ (h 6 rfl)) (.cons (str_at A s _ _ (h 7 rfl)) (.cons (str_at A s _ _ (congrFun hV 8)) .nil))))))))))
  let e1:ME:={e with b:=put e.b 5 s'.heap.objs.size,k:=put e.k 5 s'.toks,g:=put e.g 5 s'.gens.size}
  exact ⟨e1.e5 w.params,s',hE,eff0 hK,st6 H (e:=e1) ⟨(fun _=>M.f0 (by decide)),(fun _=>M.f1 (by decide)),(fun _=>M.f2 (by decide)),(fun _=>M.f3 (by decide)),(fun _=>M.f4 (by decide)),(fun h=>absurd h (by decide)),(fun h=>absurd h (by decide)),(fun h=>absurd h (by decide)),(fun h=>absurd h (by decide)),(fun h=>absurd h (by decide)),(fun h=>absurd h (by decide))⟩⟩
theorem st4 (H:MT w aS xs eS p4 c Q) {e:ME} (M:MF w c e 4):OutOk (mV w p4 c) Q (mo4 w aS xs eS p4 c e):=by
  obtain ⟨hcut,hstk⟩:=main4 w aS xs eS p4 c e
  refine ok_cutR hcut no_cond (fun s p O R hO => ?_)
  obtain ⟨hRx,hi0,hln,_⟩:=M.f3 (by decide)
  obtain ⟨q,hq⟩:=M.f2 (by decide)
  obtain ⟨ts,hTs,hmap,hnl⟩:=sheet_toks (P:=e.R) (w:=w) (q:=q) (M.f0 (by decide)) (by rw [hRx]; exact hq)
  have hlen:ts.length=9:=by have:=congrArg List.length hmap; rw [List.length_map] at this; exact this
  obtain ⟨s',t',u',ys,hE,hK,hA',hx,hy,hl⟩:=tok_ok (C:=⟨e.b 3+1,e.b 3+2,e.b 3+3,c.base⟩) (P:=e.R) (p:=p) (x:=⟨lawD.b,lawEnv c.base,(mo4 w aS xs eS p4 c e).sp2,p4⟩) (hO.outIs hstk) (t:=⟨[],0,0, .none,0⟩) (fun h=>by rw [h] at hlen; cases hlen) (by rw [hlen]; decide) rfl hi0 hTs (by rw [hlen]; exact R)
  rw [hlen] at hA'
  let e1:ME:={e with b:=put e.b 4 s'.heap.objs.size,k:=put e.k 4 s'.toks,g:=put e.g 4 s'.gens.size,V:=wordE e.x,tV:=fun i=>(ninth ys i).2,n4:=t'.n,z4:=t'.za,zv4:=t'.zv,zn4:=t'.zn,u9:=u',oI4:=ritO 9 0}
  have hxs:listO t'.xs t'.n=e1.toks:=by
    rw [hx,nine_of (hy.trans hmap)]
    rfl
  have N:wordE e.x=wordE e.x∧u'.ln=1+nlc e.T.cps.toList:=⟨rfl,by rw [hl,hln,hnl,hRx]⟩
  exact ⟨e1.e4 w.params,s',hE,eff_upd (ix:=[27,28,29,16,17,18,19,20,21,22,23,24,25]) (F:=(e.b 3+1,ritO 9 0) :: (e.b 3+2,e1.toks) :: (e.b 3+3,zO w.params k_turn 1 t'.za t'.zv t'.zn) :: e.R.obj w.params u') (hK.lessP (D:=[(c.base+4,cellO (.ref e.R.aR))]) (R.at'.of [3] (by kernel_rfl)) (hA'.of [3] (by kernel_rfl)) [0,1,2,13,3,4,5,6,7,8,9,10,11,12] (by kernel_rfl))
    (hxs ▸ hA'.of [0,1,2,4,5,6,7,8,9,10,11,12,13] (by kernel_rfl)) (by decide) rfl,st5 H (e:=e1) ⟨(fun _=>M.f0 (by decide)),(fun _=>M.f1 (by decide)),(fun _=>M.f2 (by decide)),(fun _=>M.f3 (by decide)),(fun _=>N),(fun h=>absurd h (by decide)),(fun h=>absurd h (by decide)),(fun h=>absurd h (by decide)),(fun h=>absurd h (by decide)),(fun h=>absurd h (by decide)),(fun h=>absurd h (by decide))⟩⟩
theorem st3 (H:MT w aS xs eS p4 c Q) {e:ME} (M:MF w c e 3):OutOk (mV w p4 c) Q (mo3 w aS xs eS p4 c e):=by
  obtain ⟨hcut,hstk⟩:=main3 w aS xs eS p4 c e
  refine ok_cutR hcut no_cond (fun s p O R hO => ?_)
  obtain ⟨s',Q',u,o,hE,hQ⟩:=lexer_ok (T:=e.T) (tT:=e.tT) (p:=p) (x:=⟨lawD.b,lawEnv c.base,(mo3 w aS xs eS p4 c e).sp2,p4⟩) (hO.outIs hstk) R
  let e1:ME:={e with b:=put e.b 3 s'.heap.objs.size,k:=put e.k 3 s'.toks,g:=put e.g 3 s'.gens.size,R:=Q',u0:=u,o193:=o}
  have N:Q'.x=e.T∧u.i=0∧u.ln=1 ∧ ∃ vs,o=⟨.none,none, .fields vs, #[]⟩:=⟨hQ.x,hQ.i,hQ.ln,hQ.tab⟩
  exact ⟨e1.e3 w.params,s',hE,eff_of (ix:=[3]) (F:=[(193,o)]) (news:=Q'.obj w.params u) hQ.kept (hQ.at'.of [0] (by kernel_rfl)) (fun y hy=>hQ.at' y (.tail _ hy)) (fun y hy=>hQ.lo y.1 (List.mem_map.mpr ⟨y,hy,rfl⟩)) hQ.nd (by decide) rfl,st4 H (e:=e1) ⟨(fun _=>M.f0 (by decide)),(fun _=>M.f1 (by decide)),(fun _=>M.f2 (by decide)),(fun _=>N),(fun h=>absurd h (by decide)),(fun h=>absurd h (by decide)),(fun h=>absurd h (by decide)),(fun h=>absurd h (by decide)),(fun h=>absurd h (by decide)),(fun h=>absurd h (by decide)),(fun h=>absurd h (by decide))⟩⟩
theorem st2 (H:MT w aS xs eS p4 c Q) {e:ME} (M:MF w c e 2):OutOk (mV w p4 c) Q (mo2 w aS xs eS p4 c e):=by
  obtain ⟨hcut,hstk⟩:=main2 w aS xs eS p4 c e
  refine ok_cutR hcut no_cond (fun s p O R hO => ?_)
  have hbd:=M.f0 (by decide)
  let P0:HP:={aI:=0,aF:=0,aH:=0,aW:=e.a1,aN:=e.a0,aS:=0,aD:=0,ws:=fun k=>(e.W k,e.tW k),eW:=e.eW,x:=e.x,u:=e.u,eN:=e.eX,f:=fun _=>0,k0:=0,tz:=0,eD:=0}
  have hWd : ∀ k<8,P0.W k=wordL e.x k:=fun k hk=>by
    show (e.W k).cps.toList=_
    rw [M.f1 (by decide)]; exact wordS_list e.x k hk
  obtain ⟨s',T,tT,ac6,ac7,hE,hK,hA',hT⟩:=sheet_ok (P:=P0) (p:=p) (x:=⟨lawD.b,lawEnv c.base,(mo2 w aS xs eS p4 c e).sp2,p4⟩) (hO.outIs hstk) R (fun k hk=>by rw [hWd k hk]; exact shape_word _ hbd k)
  let e1:ME:={e with b:=put e.b 2 s'.heap.objs.size,k:=put e.k 2 s'.toks,g:=put e.g 2 s'.gens.size,T:=T,tT:=tT,ac6:=ac6,ac7:=ac7}
  have N : ∃ q,T.cps.toList=layT q (wordL e.x) 8:=⟨P0.q,by rw [hT]; exact layT_congr _ 8 hWd⟩
  exact ⟨e1.e2 w.params,s',hE,eff_upd (ix:=[1,2]) (hK.lessP (D:=[(e.a1,e.words),(e.a0,e.nums)]) (R.at'.of [0,1] (by kernel_rfl)) (hA'.of [0,1] (by kernel_rfl)) [2,3,0,1] (by kernel_rfl)) (hA'.of [2,3] (by kernel_rfl)) (by decide) rfl,st3 H (e:=e1) ⟨(fun _=>M.f0 (by decide)),(fun _=>M.f1 (by decide)),(fun _=>N),(fun h=>absurd h (by decide)),(fun h=>absurd h (by decide)),(fun h=>absurd h (by decide)),(fun h=>absurd h (by decide)),(fun h=>absurd h (by decide)),(fun h=>absurd h (by decide)),(fun h=>absurd h (by decide)),(fun h=>absurd h (by decide))⟩⟩
theorem st1 (H:MT w aS xs eS p4 c Q) {e:ME} (M:MF w c e 1):OutOk (mV w p4 c) Q (mo1 w aS xs eS p4 c e):=by
  obtain ⟨hcut,hstk⟩:=main1 w aS xs eS p4 c e
  refine ok_cutR hcut no_cond (fun s p O R hO => ?_)
  let P0:WP:={aN:=c.base+9,aX:=e.a0,t0:=c.tk+1,t1:=c.tk+2,t2:=c.tk+3,t3:=c.tk+4,eN:=0,x:=e.x,u:=e.u,eX:=e.eX,m:=fun i=>markOf (e.x i) i,R:=fun i=>replyS (e.x i) i}
  obtain ⟨s',aW,tw,hE,hQ⟩:=words_ok (P:=P0) (p:=p) (hO.outIs hstk) R (fun _=>rfl) (fun _=>rfl) (M.f0 (by decide))
  let e1:ME:={e with b:=put e.b 1 s'.heap.objs.size,k:=put e.k 1 s'.toks,g:=put e.g 1 s'.gens.size,a1:=aW,W:=wordS e.x,tW:=fun k=>match k with | 0=>c.tk+1 | 1=>tw 0 | 2=>c.tk+2 | 3=>tw 1 | 4=>c.tk+3 | 5=>tw 2 | 6=>c.tk+4 | _=>tw 3,eW:=8}
  have N:wordS e.x=wordS e.x:=rfl
  exact ⟨e1.e1 w.params,s',hE,eff_new hQ.kept (show AllAt s' [(aW,e1.words)] from hQ.at') (lo_one hQ.lo) (nd_one aW),st2 H (e:=e1) ⟨(fun _=>M.f0 (by decide)),(fun _=>N),(fun h=>absurd h (by decide)),(fun h=>absurd h (by decide)),(fun h=>absurd h (by decide)),(fun h=>absurd h (by decide)),(fun h=>absurd h (by decide)),(fun h=>absurd h (by decide)),(fun h=>absurd h (by decide)),(fun h=>absurd h (by decide)),(fun h=>absurd h (by decide))⟩⟩
theorem st0 (H:MT w aS xs eS p4 c Q):OutOk (mV w p4 c) Q (mo0 w aS xs eS p4 c):=by
  let e:ME:=me0
  obtain ⟨hcut,hstk⟩:=main0 w aS xs eS p4 c e
  refine ok_cutR hcut no_cond (fun s p O R hO => ?_)
  obtain ⟨s',aN,xx,u,hE,hQ⟩:=numbers_ok (P:=⟨0,0,aS,0,xs,eS,fun _=>0⟩) (p:=p) (x:=⟨lawD.b,lawEnv c.base,(mo0 w aS xs eS p4 c).sp2,p4⟩) (hO.outIs hstk) R H.isI H.len
  let e1:ME:={e with b:=put e.b 0 s'.heap.objs.size,k:=put e.k 0 s'.toks,g:=put e.g 0 s'.gens.size,a0:=aN,x:=xx,u:=u,eX:=4}
  have N:=hQ.bd
  exact ⟨e1.e0 w.params,s',hE,eff_new hQ.kept hQ.at' (lo_one hQ.lo) (nd_one aN),st1 H (e:=e1) ⟨(fun _=>N),(fun h=>absurd h (by decide)),(fun h=>absurd h (by decide)),(fun h=>absurd h (by decide)),(fun h=>absurd h (by decide)),(fun h=>absurd h (by decide)),(fun h=>absurd h (by decide)),(fun h=>absurd h (by decide)),(fun h=>absurd h (by decide)),(fun h=>absurd h (by decide)),(fun h=>absurd h (by decide))⟩⟩
end Mine
end
section
open PySem PySem.W PySem.W.X PySem.Calls PyProof.Rows PySem.SeqAt
namespace Mine
noncomputable def lawLed (aS:Addr) (xs:List Value) (eS:Nat):Led:=[(aS,listO xs eS),tabE 63,tabE 70,tabE 193]
inductive law_ok_r (w:World) (s:Shared) (aS:Addr) (xs:List Value) (eS:Nat) (p:Pos) (O:List Frame):Prop
  | mk : ∀ s' a6 a7 vs,(EndsAt (model pw w) s (.call (.ref 235) ⟨[.ref aS],[]⟩) p O s' (.ok (.ret (.bool true))))→(Kept s s' (lawLed aS xs eS).as)→(AllAt s' [(aS,listO xs eS),tab63 a6,(70,tabO 29 32 a7),(193,⟨.none,none, .fields vs, #[]⟩)])→law_ok_r w s aS xs eS p O
theorem law_ok {w:World} {s:Shared} {aS:Addr} {xs:List Value} {eS:Nat} {p p4:Pos} {O:List Frame} (hO:OutIs O [(.builtin "claim.caller" ⟨[],[]⟩,p4)]) (R:Ready w s (lawLed aS xs eS)) (hi:Ints xs) (hl:xs.length≤100):law_ok_r w s aS xs eS p O:=by
  obtain ⟨r,s',hE,rfl,a6,a7,vs,hK,hA⟩:=seg_ok (P:=fun r s' => r = .ok (.ret (.bool true)) ∧ ∃ a6 a7 vs,Kept s s' (lawLed aS xs eS).as∧AllAt s' [(aS,listO xs eS),tab63 a6,(70,tabO 29 32 a7),(193,⟨.none,none, .fields vs, #[]⟩)])
    (p:=p) (N:=N_main) (fuel:=2500) (ids:=[0,1,2,3]) (r:=mOra) (c:= .call (.ref 235) ⟨[.ref aS],[]⟩) R hO (by decide) no_alts
    (st0 (w:=w) (aS:=aS) (xs:=xs) (eS:=eS) (p4:=p4) (c:=gxO s (lawLed aS xs eS) p) ⟨hi,hl,fun e M s' base off tk gb P hbr=>by
      obtain ⟨_,_,_,vs,hv⟩:=M.f3 (by decide)
      refine ⟨rfl,e.ac6,e.ac7,vs,kept_of R.starts P hbr, ?_⟩
      have z:=all_of P
      unfold mEnd at z
      rw [hv] at z
      exact z⟩)
  exact ⟨s',a6,a7,vs,hE,hK,hA⟩
end Mine
end
section
namespace Mine
open PySem PySem.W PySem.Spec PySem.Calls PyProof.Rows
noncomputable abbrev stubT (t:Sem Fin):Thread:=⟨t, .builtin "claim.caller" {},default,[]⟩
theorem callFrom_run {c:ClaimW} {tree:List Value→Sem Fin} {w:World} {s:Shared} {free:Addr→Prop} {gens:Prop} {kept:Heap→Prop} (hz:s.asleep) (hgens:s.gens = #[])
    (H : ∀ args,c.pre args=true→WData.layableAll args=true → ∀ ord:List DictEntry→List DictEntry,(∀ l,(ord l).Perm l) → ∃ vs s₁ n r s',layAllW c.records (classAt s.heap) w.params ord args s=some (vs,s₁) ∧
      (model c.prog w).runN n s₁ (stubT (tree vs)) = .halted (outcomeOf r) s' ∧ c.Ends s args vs s₁ r s' ∧ s'.os=s.os∧kept s'.heap):c.CallFrom (fun vs=>stubT (tree vs)) w free gens kept s:=by
  intro args hp hl ord ho
  obtain ⟨vs,s₁,n,r,s',hlaid,hrun,hE,hos,hk⟩:=H args hp hl ord ho
  have rest:=layAllW_rest _ _ _ hlaid
  obtain ⟨s2,h1,h2,h3⟩:=runNI_full (denote table) c.prog w hrun (outcomeOf_ends r) (Shared.asleep_of_life rest.2.2.2 hz)
  obtain ⟨eh,_,_,eo,_⟩:=Shared.forget_eq h3
  have hE2:c.Ends s args vs s₁ r s2:=hE.congr eh
  have hk2:kept s2.heap:=by rw [eh]; exact hk
  have hlife:s2.heap.life=s.heap.life:=(runN_life _ _ _ h2).trans rest.2.2.2
  have hgen:gens → ∀ (i:Nat) (x:GenState),s.gens[i]? = some x→s2.gens[i]? = some x:=fun _ i x hx=>by
    rw [hgens] at hx
    simp at hx
  refine ⟨vs,s₁,hlaid,n,outcomeOf r,s2,h1, ?_,hgen,hk2,by rw [hlife],Shared.rest_eq (eo.trans hos)⟩
  rcases hE2 with ⟨v,rfl,d1,d2,d3,d4,d5⟩ | ⟨e,ob,cls,rfl,d1,d2,d3,d4,d5⟩
  · exact Or.inl ⟨v,rfl,d1,d2,d3,fun b o y _=>d4 b o y,d5⟩
  · exact Or.inr ⟨e,ob,cls,rfl,d1,d2,d3,d4,fun b o y _=>d5 b o y⟩
noncomputable abbrev treeOf (r:RowW):List Value→Sem Fin:=fun vs=>do match ← nsGet mainNs r.name with
  | some f=>do ret (← PySem.call f vs)
  | none=>unsupported "claim.caller:no-such-global"
noncomputable abbrev WalkM (q:Program) (loose:List Str) (XP:(Str→Option Value)→Heap→Prop) {α : Type} (Yf:Shared → α) (Ya:World → α) (r:RowW):Prop:=
  ∀ (w:World) (s₀ s₁ : Shared) (mg mb:Str→Option Value),Ground q loose r.records XP w s₀ mg mb s₁.heap→Yf s₀ = Ya w → ∀ a,mg r.name=some (.ref a)→s₁.gens = #[] →
    ∀ (args:List WData) (vals:List Value) (as:List Addr),Laid r.records w s₀ s₁ args vals as→r.claim.pre args=true→WData.layableAll args=true→ReadsAllW r.records (classAt s₀.heap) s₁.heap vals args as→WellAll w.params s₁.heap vals args →
      ∃ n res s',(model r.prog w).runN n s₁ (stubT (treeOf r vals)) = .halted (outcomeOf res) s' ∧ GoodWG r.claim (classAt s₀.heap) (ExcName.means s₀.heap) args s₁ res s'
theorem PySem.W.holds_openX {r:OpenRow} {q:Program} {loose:List Str} {Xt:Shared→Bool} {XP:(Str→Option Value)→Heap→Prop} {α : Type} {Yf:Shared → α} {Ya:World → α} {d:DefRec} {kwd:List (Str × Expr)} {N:Nat}
    (left:LeftO r.prog q loose Xt Yf Ya N)
    (hX : ∀ s,Xt s=true→XP (s.heap.nsMap mainGlobals) s.heap) (hXk : ∀ mg h h',XP mg h→(∀ b o,h.get? b=some o→h'.get? b=some o)→XP mg h')
    (hdef:defOf q r.name=some (d,kwd)) (hp:r.prog.theDef r.name=some (d.params,d.body,d.scope)) (hk:kwWritten? d.params.kwonlyargs d.params.kw_defaults=some kwd) (hRf : ∀ s,Xt s=true→RecFacts r.records s.heap) (hwr:(!r.writes || r.records.isEmpty)=true)
    (k1:r.wellSaid=true) (ok:(chainsOk q && opensWell r.prog && (frees r.toRowW && r.within.isEmpty))=true) (hb:r.prog.bare) (hw:r.toRowW.promised)
    (call:WalkM q loose XP Yf Ya r.toRowW):r.Holds:=by
  refine ⟨k1,hw, ?_⟩
  obtain ⟨ok1,ok2⟩:=Bool.and_eq_true_iff.mp ok
  obtain ⟨hch,how⟩:=Bool.and_eq_true_iff.mp ok1
  obtain ⟨hfr,hwi⟩:=Bool.and_eq_true_iff.mp ok2
  obtain ⟨hsame,hu,ha,hap,hm⟩:=frees_parts hfr
  refine ⟨⟨hb,how,by show r.makers.map _=[]; rw [hm]; rfl⟩,hw.witness,fun w=>⟨(left.behind hX hch w).1,fun s' hs' => ?_⟩⟩
  obtain ⟨s₀,hf,hg0,s,hT,hz,hgn,hg,GG,y⟩:=(left.behind (XP:=fun mg h=>XP mg h∧RecFacts r.records h) (fun s hs=>⟨hX s hs,hRf s hs⟩) hch w).2 s' hs'
  have G0:Ground q loose [] XP w s (s.heap.nsMap mainGlobals) (s.heap.nsMap builtinsNs) s.heap:=⟨GG.T,GG.B,GG.D,GG.TE,GG.TD,GG.W,GG.X.1,GG.cls,GG.has,GG.apart,GG.once,GG.K⟩
  have G:Ground q loose r.records XP w s (s.heap.nsMap mainGlobals) (s.heap.nsMap builtinsNs) s.heap:=GG.X.2.ground G0
  have hgens:s.gens = #[]:=Array.eq_empty_of_size_eq_zero (beq_iff_eq.mp hgn)
  refine ⟨s₀,hf,hg0,s,hT,fun n hn => ?_,GG.X.2.1,GG.X.2.2.1, ?_⟩
  · obtain rfl:n=r.name:=by split at hn <;> simp_all
    exact pinned_of_view hg G0 hdef hp hk
  refine callFrom_run (c:=r.toRowW.claim) (tree:=treeOf r.toRowW) hz hgens fun args hpre hlay ord hord => ?_
  obtain ⟨⟨vs,s₁⟩,hlaid⟩:=Option.isSome_iff_exists.mp (layAllW_isSome (P:=w.params) (ord:=ord) G.has args r.args s (pre_splitW hpre).1)
  have keeps:=layAllW_keeps _ _ _ hlaid
  have hal:=layAllW_rest _ _ _ hlaid
  obtain ⟨as,hrd,hin,hold⟩:=reads_layAllW hord _ _ _ hlaid hlay s₁.heap (fun _ _ e=>e)
  have L:Laid r.records w s s₁ args vs as:=⟨⟨ord,hord,hlaid⟩,hrd,hin,hold,keeps,hal.1.trans hgens,hal.2.2.1⟩
  have G₁ :=G.keeps hXk keeps
  obtain ⟨a,o,pm,cd,doc,dV,kV,h1,h2,h3,h4,h5⟩:=G₁.fn hdef
  obtain ⟨n,res,s2,hrun,g⟩:=call w s s₁ _ _ G₁ y a h1 L.gens args vs as L hpre hlay L.reads L.well
  have hwi' : r.claim.within=[]:=List.isEmpty_iff.mp hwi
  have z:=g.laid (c:=r.claim) hsame hwi' (ident_freeW hu ha hap) L
  exact ⟨vs,s₁,n,res,s2,hlaid,hrun,z.1,z.2.1,fun q=>⟨namesKept_of hT hg r.keeps keeps g.2.1.old,noTable hwr q⟩⟩
end Mine
end
section
namespace Mine
open _root_.PySem _root_.PySem.W _root_.PySem.W.X _root_.PySem.Spec _root_.PySem.Calls _root_.PyProof.Rows
noncomputable def cutK (X:List Nat):KT→Nat→Nat→KT
  | .nil,_,_ => .nil
  | .node v l r,s,b => .node (match X.contains b with | true=>none | false=>v) (cutK X l (2*s) (s+b)) (cutK X r (2*s) (2*s+b))
theorem cutK_get {X:List Nat} : ∀ {t:KT} {s b i:Nat} {o:Obj},(cutK X t s b).get i=some o→t.get i=some o
  | .nil,_,_,_,_,h=>h
  | .node v l r,s,b,i,o,h=>by
    unfold cutK at h
    unfold KT.get at h ⊢
    cases h0:Nat.beq i 0 with
    | true =>
      rw [h0] at h
      simp only at h ⊢
      cases hx:X.contains b with
      | true=>rw [hx] at h; cases h
      | false=>rw [hx] at h; exact h
    | false =>
      rw [h0] at h
      simp only at h ⊢
      cases h1:Nat.beq (i % 2) 1 with
      | true=>rw [h1] at h; exact cutK_get h
      | false=>rw [h1] at h; exact cutK_get h
theorem old_cut {w:World} {s:Shared} {T:KT} (H:KT.Holds s.heap 1 0 T) (e:cutK ktX T 1 0=ktP w.params):Old w s:=fun a o h=>kt_at H (cutK_get (X:=ktX) (s:=1) (b:=0) (by rw [e]; exact h))
theorem tab63c {w:World} {s:Shared} (old:Old w s):isCodeTable s.heap 63:=⟨67,o67 w.params,_,old 67 _ (by kernel_rfl),rfl,rfl,rfl⟩
theorem tab70c {w:World} {s:Shared} (old:Old w s):isCodeTable s.heap 70:=⟨74,o74 w.params,_,old 74 _ (by kernel_rfl),rfl,rfl,rfl⟩
theorem tab193c {w:World} {s:Shared} (old:Old w s):isCodeTable s.heap 193:=⟨197,o197 w.params,_,old 197 _ (by kernel_rfl),rfl,rfl,rfl⟩
theorem ints_len : ∀ {vs:List Value} {ns:List Int},IntsAre vs ns→vs.length=ns.length∧Ints vs
  | _,_, .nil=>⟨rfl,fun _ h=>nomatch h⟩
  | _,_, .cons n t h=>by
    obtain ⟨h1,h2⟩:=ints_len h
    refine ⟨congrArg Nat.succ h1,fun v hv => ?_⟩
    rcases List.mem_cons.mp hv with rfl | hv
    · exact ⟨n,t,rfl⟩
    · exact h2 v hv
theorem kt236 (P:Params):(ktP P).get 236=none:=by kernel_rfl
theorem ready_law {w:World} {s:Shared} {xs:List Value} (old:Old w s) (hb:s.gens = #[]) (h1:s.heap.get? 236=some (listO xs 0)) (h2:s.heap.get? 63=some (tabE 63).2) (h3:s.heap.get? 70=some (tabE 70).2) (h4:s.heap.get? 193=some (tabE 193).2):Ready w s (lawLed 236 xs 0) where
  at' y hy:=by
    rcases List.mem_cons.mp hy with rfl | hy
    · exact h1
    rcases List.mem_cons.mp hy with rfl | hy
    · exact h2
    rcases List.mem_cons.mp hy with rfl | hy
    · exact h3
    · rw [List.mem_singleton.mp hy]; exact h4
  nd:=by
    show ([236,63,70,193]:List Nat).Nodup
    decide
  ap y hy:=by
    rcases List.mem_cons.mp hy with rfl | hy
    · exact kt236 _
    rcases List.mem_cons.mp hy with rfl | hy
    · exact kt63 _
    rcases List.mem_cons.mp hy with rfl | hy
    · exact kt70 _
    · rw [List.mem_singleton.mp hy]; exact kt193 _
  old:=old
  bare x hx:=by
    rw [hb] at hx
    simp at hx
theorem oldK_law {w:World} {s s' : Shared} {aS:Addr} {xs:List Value} {eS:Nat} {a6 a7:Addr} {vs:Array Value} (R:Ready w s (lawLed aS xs eS)) (K:Kept s s' (lawLed aS xs eS).as)
    (hA:AllAt s' [(aS,listO xs eS),tab63 a6,(70,tabO 29 32 a7),(193,⟨.none,none, .fields vs, #[]⟩)]):OldK s.heap s'.heap:=by
  have t1:=tab63c R.old
  have t2:=tab70c R.old
  have t3:=tab193c R.old
  have key : ∀ b o,s.heap.get? b=some o→asItWas s.heap s'.heap b o:=fun b o e=>by
    by_cases hb:b∈(lawLed aS xs eS).as
    · have hb:b∈[aS,63,70,193]:=hb
      simp only [List.mem_cons,List.not_mem_nil,or_false] at hb
      rcases hb with rfl | rfl | rfl | rfl
      · have h1:=R.at' (b,listO xs eS) (.head _)
        have h2:=hA _ (.head _)
        rw [e] at h1
        exact .inl (h2.trans h1.symm)
      · have h1:s.heap.get? 63=some (tabE 63).2:=R.at' (tabE 63) (.tail _ (.head _))
        have h2:=hA _ (.tail _ (.head _))
        obtain rfl:o=(tabE 63).2:=Option.some.inj (e.symm.trans h1)
        exact .inr (.inl ⟨t1,rfl, #[], #[.int 26 0, .int 19 0, .ref a6],rfl,h2⟩)
      · have h1:s.heap.get? 70=some (tabE 70).2:=R.at' (tabE 70) (.tail _ (.tail _ (.head _)))
        have h2:=hA _ (.tail _ (.tail _ (.head _)))
        obtain rfl:o=(tabE 70).2:=Option.some.inj (e.symm.trans h1)
        exact .inr (.inl ⟨t2,rfl, #[], #[.int 29 0, .int 32 0, .ref a7],rfl,h2⟩)
      · have h1:s.heap.get? 193=some (tabE 193).2:=R.at' (tabE 193) (.tail _ (.tail _ (.tail _ (.head _))))
        have h2:=hA _ (.tail _ (.tail _ (.tail _ (.head _))))
        obtain rfl:o=(tabE 193).2:=Option.some.inj (e.symm.trans h1)
        refine .inr (.inl ⟨t3,rfl, #[],vs,rfl, ?_⟩)
        rw [Array.empty_append]
        exact h2
    · exact .inl (K.keep b o e hb)
  refine ⟨key,fun b o e => ?_⟩
  by_cases hb:b∈(lawLed aS xs eS).as
  · have hb:b∈[aS,63,70,193]:=hb
    simp only [List.mem_cons,List.not_mem_nil,or_false] at hb
    rcases hb with rfl | rfl | rfl | rfl
    · exact ⟨_,hA _ (.head _)⟩
    · exact ⟨_,hA _ (.tail _ (.head _))⟩
    · exact ⟨_,hA _ (.tail _ (.tail _ (.head _)))⟩
    · exact ⟨_,hA _ (.tail _ (.tail _ (.tail _ (.head _))))⟩
  · exact ⟨o,K.keep b o e hb⟩
theorem halts_of {M:Model} {s s' : Shared} {th:Thread} {r:Result} {c:Code} {p:Pos} (h:Comes M s th s' ⟨leafOf r,c,p,[]⟩) (hg:leftWithCleanup s'.gens=false) : ∃ n,M.runN n s th = .halted (outcomeOf r) s' :=by
  refine h.halts (m:=1) ?_
  rw [runN_succ,step_leaf_nil]
  simp [finish,hg]
  done
inductive law_thread_r (w:World) (s:Shared) (aS:Addr) (xs:List Value) (eS:Nat) (t:Sem Fin):Prop
  | mk : ∀ n s' a6 a7 vs,((model pw w).runN n s (stubT t) = .halted (outcomeOf (.ok (.ret (.bool true)))) s')→(Kept s s' (lawLed aS xs eS).as)→(AllAt s' [(aS,listO xs eS),tab63 a6,(70,tabO 29 32 a7),(193,⟨.none,none, .fields vs, #[]⟩)])→law_thread_r w s aS xs eS t
theorem law_thread {w:World} {s:Shared} {mg:Str→Option Value} {name:Str} {aS:Addr} {xs:List Value} {eS:Nat} (hn:s.heap.Ns mainNs mg) (hf:mg name=some (.ref 235)) (R:Ready w s (lawLed aS xs eS)) (hi:Ints xs) (hl:xs.length≤100) (t:Sem Fin)
    (ht:t=(nsGet mainNs name).bind fun v=>match v with | some f=>(PySem.call f [.ref aS]).bind fun x => .pure (.done (.ret x)) | none => .unsupported "claim.caller:no-such-global"):law_thread_r w s aS xs eS t:=by
  subst ht
  obtain ⟨s1,p1,t1,hc,hq⟩:=wp_comes_bind (M:=model pw w) (Γ :=Ctx.of (.builtin "claim.caller" {}) []) (Ctx.fits_of _ []) (fun v=>match v with | some f=>(PySem.call f [.ref aS]).bind fun x => .pure (.done (.ret x)) | none => .unsupported "claim.caller:no-such-global") (nsGet mainNs name) (fun v _ s' => v=some (.ref 235)∧s' = s) (fun _ _ _=>False) default s
    ((Sem.wp_nsGet (model pw w) _ _ default s hn name _).mpr ⟨hf,rfl⟩)
  rcases hq with ⟨v,rfl,rfl,rfl⟩ | ⟨_,_,h⟩
  · obtain ⟨s',a6,a7,vs,⟨c',p',hE⟩,hK,hA⟩:=law_ok (w:=w) (p:=p1) (p4:=p1) (O:=[.ret (fun r=>((match r with | .ok f=>Sem.pure f | .error e=>Sem.raise e:Sem Flow).bind fun fl=>(match fl with | .ret v=>Sem.pure v | _=>Sem.unsupported "internal:call-without-return-value" : Sem Value)).bind fun x=>Sem.pure (Fin.done (.ret x))) none false [] (.builtin "claim.caller" {}) p1 []]) ⟨rfl,rfl,rfl⟩ R hi hl
    obtain ⟨n,hn⟩:=halts_of (r:= .ok (.ret (.bool true))) (hc.trans (.step (step_call ..) (hE.trans (.step (step_leaf_ret ..) (.refl _ _))))) (leftWithCleanup_false_of_bare (hK.bare R.bare))
    exact ⟨n,s',a6,a7,vs,hn,hK,hA⟩
  · exact h.elim
end Mine
end
section
namespace Mine
open _root_.PySem _root_.PySem.W _root_.PySem.W.X _root_.PySem.Spec _root_.PySem.Calls _root_.PyProof.Rows
noncomputable def viewQ:Program:={pw with main:={pw.main with body:=[0,2,3,5,6,7,8,10,12,13,14,15,16,17,18,19].filterMap fun i=>pw.main.body[i]? } }
noncomputable def looseQ:List Str:=[Str.ofString "_Accumulator"]
noncomputable def ktA:List Nat:=ktL++[63,70,193]
noncomputable def objQ (P:Params) (a:Nat):Obj:=match (ktP P).get a with | some o=>o | none=>⟨.none,none, .fields #[], #[]⟩
@[irreducible] noncomputable def fragQ (P:Params):Frag:=ktA.map fun a=>(a,objQ P a)
noncomputable abbrev xtQ:Shared→Bool:=fun s=>xlAt viewQ [] s && recOk [] s
set_option maxHeartbeats 0 in
theorem top_left:LeftO pw viewQ looseQ xtQ (obsZ ktA) (valZ fragQ 236 481) 3686:=fun w=>by
  unfold openEnds fencedOpening topFrom
  rw [_root_.PySem.W.Fast.te10274390034422433532,_root_.PySem.W.Fast.te14082659384304107361,_root_.PySem.W.Fast.te14364793385576792824,_root_.PySem.W.Fast.te4187177175401517315,_root_.PySem.W.Fast.te14289696077712309145,_root_.PySem.W.Fast.te1435165496053646825]
  kernel_rfl
theorem ktA_fst (P:Params):ktA=(fragQ P).map (·.1):=by kernel_rfl
theorem ktQ_cut (P:Params):cutK ktX (KT.of (fragQ P)) 1 0=ktP P:=by kernel_rfl
theorem kt_63 (P:Params):(KT.of (fragQ P)).get 63=some (tabE 63).2:=by kernel_rfl
theorem kt_70 (P:Params):(KT.of (fragQ P)).get 70=some (tabE 70).2:=by kernel_rfl
theorem kt_193 (P:Params):(KT.of (fragQ P)).get 193=some (tabE 193).2:=by kernel_rfl
end Mine
end
section
namespace Mine
open _root_.PySem _root_.PySem.W _root_.PySem.W.X _root_.PySem.Spec _root_.PySem.Calls _root_.PyProof.Rows
noncomputable abbrev rowQ:OpenRow:=_root_.PySem.Challenge.rw_xr0006_02.row
theorem law_some:(defOf viewQ rowQ.name).isSome=true:=by kernel_rfl
noncomputable def lawRec:DefRec × List (Str × PySem.Expr):=(defOf viewQ rowQ.name).get law_some
theorem q1:defOf viewQ rowQ.name=some (lawRec.1,lawRec.2):=(Option.some_get law_some).symm
theorem q2:rowQ.prog.theDef rowQ.name=some (lawRec.1.params,lawRec.1.body,lawRec.1.scope):=by kernel_rfl
theorem q3:kwWritten? lawRec.1.params.kwonlyargs lawRec.1.params.kw_defaults=some lawRec.2:=by kernel_rfl
theorem q0:OpenLaw.wellSaid _root_.PySem.Challenge.rw_xr0006_02=true:=by kernel_rfl
theorem q5:(chainsOk viewQ && opensWell rowQ.prog && (frees rowQ.toRowW && rowQ.within.isEmpty))=true:=by decide +kernel
theorem q6:rowQ.prog.bare:=⟨rfl,rfl,rfl,rfl,rfl,by decide +kernel⟩
theorem holds_q {K:Params→Frag} {w:World} {s s' : Shared} (Z:AllIn s.heap (K w.params)) (k : ∀ b o,s.heap.get? b=some o→s'.heap.get? b=some o):KT.Holds s'.heap 1 0 (KT.of (K w.params)):=KT.Holds.keeps k (holds_of Z)
theorem in_q {K:Params→Frag} {w:World} {s s' : Shared} (Z:InK K w s.heap) (k : ∀ b o,s.heap.get? b=some o→s'.heap.get? b=some o):Frag.In (K w.params) s'.heap:=InK.keeps w s.heap s'.heap Z k
theorem old_q {w:World} {s:Shared} (H:KT.Holds s.heap 1 0 (KT.of (fragQ w.params))):Old w s:=old_cut H (ktQ_cut _)
theorem ready_q {w:World} {s:Shared} {xs:List Value} (H:KT.Holds s.heap 1 0 (KT.of (fragQ w.params))) (hb:s.gens = #[]) (h:s.heap.get? 236=some (listO xs 0)):Ready w s (lawLed 236 xs 0):=
  ready_law (old_q H) hb h (kt_at H (kt_63 _)) (kt_at H (kt_70 _)) (kt_at H (kt_193 _))
end Mine
end
section
namespace Mine
open _root_.PySem _root_.PySem.W _root_.PySem.W.X _root_.PySem.W.ZRun _root_.PySem.Spec _root_.PyProof.Rows
set_option maxHeartbeats 2000000 in
theorem fin0:_root_.PySem.Challenge.rw_xr0006_02.Holds:=by
  w_on
  refine holds_law q0 fun said => ?_
  refine Mine.PySem.W.holds_openX (q:=viewQ) (loose:=looseQ) (Xt:=xtQ) (XP:=XL viewQ []) (Yf:=obsZ ktA) (Ya:=valZ fragQ 236 481) (N:=3686) top_left (fun s e=>xl_of s (Bool.and_eq_true_iff.mp e).1) XL.keeps q1 q2 q3 (fun s e=>recFacts_of (Bool.and_eq_true_iff.mp e).2) rfl said q5 q6 ?hw ?hc
  (case hw=>w_witness2)
  intro w s₀ s₁ mg mb G y fa hmg hg args vals as L hpre hlay hrd hwl
  obtain ⟨ZA,ZI,ZN,ZT⟩:=z_facts ktA_fst y
  have ZH:=holds_q (K:=fragQ) ZA L.keeps
  have KX:=in_q (K:=fragQ) ZI L.keeps
  have hlo:=L.low (by rw [ZN]; decide)
  refine Ground.open G ?_
  intro T B D TE TW
  wrow_args hpre hlay hrd hwl hlo
  obtain ⟨hat,hsz⟩:=script_at L
  rw [ZN] at hat hsz
  subst hat
  x_fa T KX hmg
  rename_i ns a1 a2 a3 a4 a5 as1 as2 vs as3 ra hI a6 hlen a7 hL w1 r0
  have hobj:=script_obj L hL
  have R:=ready_q ZH hg hobj
  obtain ⟨hl,hi⟩:=ints_len hI
  obtain ⟨n,s',b6,b7,us,hrun,hK,hA⟩:=law_thread (mg:=mg) T.g hmg R hi (by lia) _ rfl
  exact ⟨n, .ok (.ret (.bool true)),s',hrun,⟨.inl ⟨.bool true, .bool true,[],rfl,fun _=>rfl,ReadsW.bool true,(by kernel_rfl),fun _=>⟨List.nodup_nil,fun _ h=>nomatch h⟩⟩,oldK_law R hK hA,hK.os,hK.bare R.bare⟩⟩
end Mine
end
set_option maxRecDepth 100000 in
theorem PySem.Challenge.cw_xr0006_02_holds : PySem.Challenge.rw_xr0006_02.Holds := by
  exact Mine.fin0
